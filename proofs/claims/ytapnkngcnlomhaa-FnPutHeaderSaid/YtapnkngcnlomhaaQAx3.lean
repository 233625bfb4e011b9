-- Written by a program of this work (wip/patch_print.py) for this claim.
import Derived.Test.YtapnkngcnlomhaaQAx0
import Derived.Test.YtapnkngcnlomhaaQAx1
import Derived.Test.YtapnkngcnlomhaaQAx2
namespace Go.Proofs.Ytapnkngcnlomhaa.QA
open Go.RowKit Go.Proofs.YtapnkngcnlomhaaW.PrintWords Go.Proofs.YtapnkngcnlomhaaW.PrintLast Go.Proofs.YtapnkngcnlomhaaW.PrintMore
attribute [local go_sem] max2_int min2_int max_two min_two max_three min_three max_four min_four   -- for this text's walks alone
set_option linter.unusedVariables false
set_option linter.unusedSimpArgs false

/-! ### spec_Put128: function 20 -/
def spec_Put128.l0 : Nat → Int → List Int → Option (List Int)
  | 0, _, _ => none
  | k + 1, x0, x3 => if x0 > 0 then ((some (([(Go.bits .or .i64 (Go.bits .and .i64 x0 127) 128) % 256] : List Int) : List Int)).bind fun y203 => (if y203.length + x3.length < 140737488355328 then (spec_Put128.l0 k (x0 / 128) (y203 ++ x3)) else (none))) else (some x3)
def spec_Put128.f (k : Nat) (a0 : Int) : Option (List Int) := spec_Put128.l0 k (a0 / 128) (([(Go.bits .and .i64 a0 127) % 256] : List Int))
theorem spec_Put128.mono_l : ∀ k, (∀ y0 y1, LeO (spec_Put128.l0 k y0 y1) (spec_Put128.l0 (k + 1) y0 y1))
  | 0 => fun _ _ r h => by simp [spec_Put128.l0] at h
  | k + 1 => by
    have ih0 := spec_Put128.mono_l k
    · intro y0 y1
      unfold spec_Put128.l0
      repeat' first
      | (with_reducible exact ih0 _ _)
      | (with_reducible exact LeO.refl _)
      | (with_reducible exact LeO.none _)
      | (with_reducible refine LeO.ite ?_ ?_)
      | (with_reducible refine LeO.bind ?_ (fun _ => ?_))
      | exact ih0 _ _
      | exact LeO.none _
      | refine LeO.ite ?_ ?_
      | refine LeO.bind ?_ (fun _ => ?_)
theorem spec_Put128.mono : ∀ a0 k, LeO (spec_Put128.f k a0) (spec_Put128.f (k + 1) a0) := by
  intro a0 k
  have ih0 := spec_Put128.mono_l k
  unfold spec_Put128.f
  repeat' first
      | (with_reducible exact ih0 _ _)
      | (with_reducible exact LeO.refl _)
      | (with_reducible exact LeO.none _)
      | (with_reducible refine LeO.ite ?_ ?_)
      | (with_reducible refine LeO.bind ?_ (fun _ => ?_))
      | exact ih0 _ _
      | exact LeO.none _
      | refine LeO.ite ?_ ?_
      | refine LeO.bind ?_ (fun _ => ?_)
set_option maxHeartbeats 8000000 in
set_option maxRecDepth 100000 in
theorem spec_Put128.calls (k : Nat) (a0 : Int) (r : List Int) (w : World) (h : spec_Put128.f k a0 = some r) :
    Calls Try.prog 20 #[.int .i64 a0] w fun e w' => ∃ v0_ : Value, e = .returned (v0_) ∧ Kd.R (Kd.int .u8) 5 w' w.heap.size (fun _ => True) v0_ r ∧ Below w.heap.size w w' := by
  have HB := Aside0.mk (Below.refl w.heap.size w)
  have H : (spec_Put128.l0 k (a0 / 128) (([(Go.bits .and .i64 a0 127) % 256] : List Int))) = some r := h
  clear h
  obtain ⟨y200, hy200⟩ : ∃ y_ : List Int, y_ = (([(Go.bits .and .i64 a0 127) % 256] : List Int)) := ⟨_, rfl⟩
  replace H : (spec_Put128.l0 k (a0 / 128) y200) = some r := by first | (rw [hy200]; with_reducible exact H) | (have H2_ := (Option.bind_some _ _).symm.trans H; rw [hy200]; with_reducible exact H2_) | (have H2_ := (Option.bind_some _ _).symm.trans H; with_reducible exact H2_) | with_reducible exact H | (rw [hy200]; exact H) | exact H
  have Ny200 := Aside0.mk hy200
  clear hy200
  have H' := Aside0.mk H
  clear H
  go_enter Try.func20, Try.ntmps20
  go_wp2_with (first | ((with_reducible refine gate_dst (N := 7) rfl ?_); refine Kd.R_lit (Kd.int .u8) _ 5 ?hg (N := 7) ?hd (xs := ([(Go.bits .and .i64 a0 127) % 256] : List Int)) (inner := [.int .u8 ((Go.bits .and .i64 a0 127) % 256)]) (ok := fun _ => True) (okp := fun _ => True) ?hr ?hp (fun _ hk => hk) trivial (Below.refl _ _) (Nat.le_refl _) (by simp) ?_; (case hd => rfl); (case hg => rfl); (case hr => first | (go_simp; done) | (go_simp; rfl)); (case hp => exact (Reps.one (show Kd.M (Kd.int .u8) _ _ _ ((Go.bits .and .i64 a0 127) % 256) [.int .u8 ((Go.bits .and .i64 a0 127) % 256)] from rfl) (Reps.none _ _))); intro v201 w2 ho3 hb hg_ hnew_; clear hg_ hnew_; (first | rw [← Ny200.out] at ho3 | (simp only [Int.reduceToNat] at ho3; rw [← Ny200.out] at ho3)); have n0_ := Aside0.mk (Kd.R_lower ho3 (below_size (by repeat (first | (with_reducible first | exact HB.out | apply below_alloc | apply pw_below_drewN | apply below_drew1) | exact HB.out)))); have n1_ := Aside0.mk (below_step (by repeat (first | (with_reducible first | exact HB.out | apply below_alloc | apply pw_below_drewN | apply below_drew1) | exact HB.out)) hb); clear HB; have HO202 := n0_; have HB := n1_; clear n0_ n1_; clear hb ho3))
  go_loopg [0, 3] k (fun kq v0 v3 w' => ∃ (x0_1 : Int) (x3_1 : List Int), v0 = .int .i64 x0_1 ∧ Aside0 (spec_Put128.l0 kq x0_1 x3_1 = some r) ∧ Aside0 (kq ≤ k) ∧ Aside0 (Kd.R (Kd.int .u8) 5 w' w.heap.size (fun _ => True) v3 x3_1) ∧ Aside0 (Below w.heap.size w w'))
  case atStart => exact ⟨(a0 / 128), (y200), (by first | rfl | (simp; done) | (simp [*]; done)), H', ⟨Nat.le_refl _⟩, ⟨by (with_reducible repeat (first | apply Kd.R_alloc | apply Kd.R_drewN | apply Kd.R_drew)); exact HO202.out⟩, ⟨by repeat (first | (with_reducible first | exact HB.out | apply below_alloc | apply pw_below_drewN | apply below_drew1) | exact HB.out)⟩⟩
  case round =>
    clear H'
    try clear c2
    try clear p2
    obtain ⟨x0_1, x3_1, rfl, HA, HK1, HO_3, HB⟩ := hrel
    cases gk with
    | zero => exact absurd HA.out (by simp [spec_Put128.l0])
    | succ k1 =>
      have H := HA.out
      clear HA
      simp only [spec_Put128.l0] at H
      by_cases c4 : x0_1 > 0
      · rw [if_pos c4] at H
        have c4b0 : decide (0 < x0_1) = true := decide_eq_true c4
        clear c4
        obtain ⟨y203, hy203⟩ : ∃ y_ : List Int, y_ = (([(Go.bits .or .i64 (Go.bits .and .i64 x0_1 127) 128) % 256] : List Int)) := ⟨_, rfl⟩
        replace H : (if y203.length + x3_1.length < 140737488355328 then (spec_Put128.l0 k1 (x0_1 / 128) (y203 ++ x3_1)) else (none)) = some r := by first | (rw [hy203]; with_reducible exact H) | (have H2_ := (Option.bind_some _ _).symm.trans H; rw [hy203]; with_reducible exact H2_) | (have H2_ := (Option.bind_some _ _).symm.trans H; with_reducible exact H2_) | with_reducible exact H | (rw [hy203]; exact H) | exact H
        have Ny203 := Aside0.mk hy203
        clear hy203
        by_cases c5 : y203.length + x3_1.length < 140737488355328
        · rw [if_pos c5] at H
          have LMc5 := Aside0.mk c5
          clear c5
          obtain ⟨y206, hy206⟩ : ∃ y_ : List Int, y_ = (y203 ++ x3_1) := ⟨_, rfl⟩
          replace H : (spec_Put128.l0 k1 (x0_1 / 128) y206) = some r := by first | (rw [hy206]; with_reducible exact H) | (have H2_ := (Option.bind_some _ _).symm.trans H; rw [hy206]; with_reducible exact H2_) | (have H2_ := (Option.bind_some _ _).symm.trans H; with_reducible exact H2_) | with_reducible exact H | (rw [hy206]; exact H) | exact H
          have Ny206 := Aside0.mk hy206
          clear hy206
          have H' := Aside0.mk H
          clear H
          go_wp2_with (first | ((with_reducible refine gate_dst (N := 18) rfl ?_); refine Kd.R_lit (Kd.int .u8) _ 5 ?hg (N := 18) ?hd (xs := ([(Go.bits .or .i64 (Go.bits .and .i64 x0_1 127) 128) % 256] : List Int)) (inner := [.int .u8 ((Go.bits .or .i64 (Go.bits .and .i64 x0_1 127) 128) % 256)]) (ok := fun _ => True) (okp := fun _ => True) ?hr ?hp (fun _ hk => hk) trivial (Below.refl _ _) (Nat.le_refl _) (by simp) ?_; (case hd => rfl); (case hg => rfl); (case hr => first | (go_simp; done) | (go_simp; rfl)); (case hp => exact (Reps.one (show Kd.M (Kd.int .u8) _ _ _ ((Go.bits .or .i64 (Go.bits .and .i64 x0_1 127) 128) % 256) [.int .u8 ((Go.bits .or .i64 (Go.bits .and .i64 x0_1 127) 128) % 256)] from rfl) (Reps.none _ _))); intro v204 w6 ho7 hb hg_ hnew_; clear hg_ hnew_; (first | rw [← Ny203.out] at ho7 | (simp only [Int.reduceToNat] at ho7; rw [← Ny203.out] at ho7)); have n0_ := Aside0.mk (Kd.R_elder' (by (with_reducible repeat (first | apply Kd.R_alloc | apply Kd.R_drewN | apply Kd.R_drew)); exact HO_3.out) (Kd.R_base ho7) hb); have n1_ := Aside0.mk (Kd.R_lower (Kd.R_new' ho7 (Kd.R_lt (by (with_reducible repeat (first | apply Kd.R_alloc | apply Kd.R_drewN | apply Kd.R_drew)); exact HO_3.out))) (below_size (by repeat (first | (with_reducible first | exact HB.out | apply below_alloc | apply pw_below_drewN | apply below_drew1) | exact HB.out)))); have n2_ := Aside0.mk (below_step (by repeat (first | (with_reducible first | exact HB.out | apply below_alloc | apply pw_below_drewN | apply below_drew1) | exact HB.out)) hb); clear HO_3; clear HB; have HO_3 := n0_; have HO205 := n1_; have HB := n2_; clear n0_ n1_ n2_; clear hb ho7; obtain ⟨Ao9, co9, eo9⟩ := Kd.R_slice HO_3.out; subst eo9) | ((with_reducible refine gate_builtin (b := .append) (xs := #[.tmp 18, .tmp 19]) rfl ?_); at_builtin; refine Kd.R_append_rows (Kd.int .u8) (w0 := w) w.heap.size rfl (.tmp 18) (.tmp 19) 22 5 (.int .u8 0) 1 rfl Try.underlying22 info5 rfl (by decide) (by omega) v204 y203 x3_1 _ _ _ (fun k_ => some k_ ≠ (.slice Ao9 x3_1.length co9 : Value).ownBlock) (fun _ => False) rfl rfl ?aO ?aR (fun _ _ h => h) (fun _ h => h.elim) ?aF ?aB ?aS ?aL ?_; (case aR => repeat (first | exact (Kd.R_reads' HO_3.out).2.2 | (with_reducible refine Kd.C_alloc ?_ _) | (with_reducible refine Kd.C_drewN ?_ _) | (with_reducible refine Kd.C_drew ?_))); (case aB => exact (by repeat (first | (with_reducible first | exact HB.out | apply below_alloc | apply pw_below_drewN | apply below_drew1) | exact HB.out))); (case aF => exact (fun k_ hk => Kd.fresh' (Kd.R_lt (by (with_reducible repeat (first | apply Kd.R_alloc | apply Kd.R_drewN | apply Kd.R_drew)); exact HO_3.out)) k_ hk)); (case aO => exact (by (with_reducible repeat (first | apply Kd.R_alloc | apply Kd.R_drewN | apply Kd.R_drew)); exact Kd.R_mono HO205.out (fun _ hk => hk.2))); (case aS => exact (below_size (by repeat (first | (with_reducible first | exact HB.out | apply below_alloc | apply pw_below_drewN | apply below_drew1) | exact HB.out)))); (case aL => have := LMc5.out; omega); intro v207 w8 ho hb hg hat; rw [← Ny206.out] at ho; have n0_ := Aside0.mk (Kd.R_after (ok := (fun _ => True)) (by (with_reducible repeat (first | apply Kd.R_alloc | apply Kd.R_drewN | apply Kd.R_drew)); exact HO_3.out) hg hat); have n1_ := Aside0.mk (hb); have n2_ := Aside0.mk (ho); clear HO_3; clear HB; clear HO205; have HO_3 := n0_; have HB := n1_; have HO208 := n2_; clear n0_ n1_ n2_; clear ho hb hg hat))
          go_roundg k1
          case measure => have := HK1.out; omega
          case rel => exact ⟨(x0_1 / 128), (y206), (by first | rfl | (simp; done) | (simp [*]; done)), H', ⟨by have := HK1.out; omega⟩, ⟨by (with_reducible repeat (first | apply Kd.R_alloc | apply Kd.R_drewN | apply Kd.R_drew)); exact Kd.R_mono HO208.out (fun _ hk => trivial)⟩, ⟨by repeat (first | (with_reducible first | exact HB.out | apply below_alloc | apply pw_below_drewN | apply below_drew1) | exact HB.out)⟩⟩
        · rw [if_neg c5] at H
          exact absurd H (by simp)
      · rw [if_neg c4] at H
        have c4b0 : decide (0 < x0_1) = false := decide_eq_false c4
        clear c4
        obtain rfl := Option.some.inj H
        go_wp2
        go_ret
        exact ⟨_, by first | rfl | (simp [errW_none, errW_some] <;> rfl) | (simp [*, errW_none, errW_some] <;> rfl), by (with_reducible repeat (first | apply Kd.R_alloc | apply Kd.R_drewN | apply Kd.R_drew)); exact HO_3.out, by repeat (first | (with_reducible first | exact HB.out | apply below_alloc | apply pw_below_drewN | apply below_drew1) | exact HB.out)⟩

/-! ### laws_FnPutBase128: function 6 -/
def laws_FnPutBase128.f (k : Nat) (a0 : Int) : Option (Bool) := if a0 < 0 then (some true) else ((impl_PutBase128.f k a0).bind fun t209 => ((spec_Put128.f k a0).bind fun t212 => ((bytes_Equal.f t209 t212).bind fun t215 => (some t215))))
theorem laws_FnPutBase128.mono : ∀ a0 k, LeO (laws_FnPutBase128.f k a0) (laws_FnPutBase128.f (k + 1) a0) := by
  intro a0 k
  unfold laws_FnPutBase128.f
  repeat' first
      | (with_reducible exact impl_PutBase128.mono _ _)
      | (with_reducible exact spec_Put128.mono _ _)
      | (with_reducible exact LeO.refl _)
      | (with_reducible exact LeO.none _)
      | (with_reducible refine LeO.ite ?_ ?_)
      | (with_reducible refine LeO.bind ?_ (fun _ => ?_))
      | exact impl_PutBase128.mono _ _
      | exact spec_Put128.mono _ _
      | exact LeO.none _
      | refine LeO.ite ?_ ?_
      | refine LeO.bind ?_ (fun _ => ?_)
set_option maxHeartbeats 8000000 in
set_option maxRecDepth 100000 in
theorem laws_FnPutBase128.calls (k : Nat) (a0 : Int) (r : Bool) (w : World) (h : laws_FnPutBase128.f k a0 = some r) :
    Calls Try.prog 6 #[.int .i64 a0] w fun e w' => e = .returned (.bool r) ∧ Below w.heap.size w w' := by
  have HB := Aside0.mk (Below.refl w.heap.size w)
  have H : (if a0 < 0 then (some true) else ((impl_PutBase128.f k a0).bind fun t209 => ((spec_Put128.f k a0).bind fun t212 => ((bytes_Equal.f t209 t212).bind fun t215 => (some t215))))) = some r := h
  clear h
  by_cases c2 : a0 < 0
  · rw [if_pos c2] at H
    have c2b0 : decide (a0 < 0) = true := decide_eq_true c2
    clear c2
    obtain rfl := Option.some.inj H
    go_enter Try.func6, Try.ntmps6
    go_wp2
    go_ret
    exact ⟨by first | rfl | (simp [errW_none, errW_some] <;> rfl) | (simp [*, errW_none, errW_some] <;> rfl), by repeat (first | (with_reducible first | exact HB.out | apply below_alloc | apply pw_below_drewN | apply below_drew1) | exact HB.out)⟩
  · rw [if_neg c2] at H
    have c2b0 : decide (a0 < 0) = false := decide_eq_false c2
    clear c2
    replace H := Option.bind_eq_some_iff.mp H
    obtain ⟨t209, A30, H⟩ := H
    replace H : ((spec_Put128.f k a0).bind fun t212 => ((bytes_Equal.f t209 t212).bind fun t215 => (some t215))) = some r := H
    have A3 := Aside0.mk A30
    clear A30
    replace H := Option.bind_eq_some_iff.mp H
    obtain ⟨t212, A40, H⟩ := H
    replace H : ((bytes_Equal.f t209 t212).bind fun t215 => (some t215)) = some r := H
    have A4 := Aside0.mk A40
    clear A40
    replace H := Option.bind_eq_some_iff.mp H
    obtain ⟨t215, A50, H⟩ := H
    replace H : (some t215) = some r := H
    have A5 := Aside0.mk A50
    clear A50
    obtain rfl := Option.some.inj H
    go_enter Try.func6, Try.ntmps6
    go_wp2_with (first | (go_at_call 19; (with_reducible refine (impl_PutBase128.calls k a0 t209 _ A3.out).mono ?_); rintro e w6 ⟨v210, rfl, ho0, hb⟩; have n0_ := Aside0.mk (Kd.R_lower ho0 (below_size (by repeat (first | (with_reducible first | exact HB.out | apply below_alloc | apply pw_below_drewN | apply below_drew1) | exact HB.out)))); have n1_ := Aside0.mk (below_step (by repeat (first | (with_reducible first | exact HB.out | apply below_alloc | apply pw_below_drewN | apply below_drew1) | exact HB.out)) hb); clear HB; have HO211 := n0_; have HB := n1_; clear n0_ n1_; (try clear hb); (try clear hb2); (try clear hk); (try clear hi); (try clear ho0)) | (go_at_call 20; (with_reducible refine (spec_Put128.calls k a0 t212 _ A4.out).mono ?_); rintro e w7 ⟨v213, rfl, ho0, hb⟩; have n0_ := Aside0.mk (Kd.R_elder' (by (with_reducible repeat (first | apply Kd.R_alloc | apply Kd.R_drewN | apply Kd.R_drew)); exact HO211.out) (Kd.R_base ho0) hb); have n1_ := Aside0.mk (Kd.R_lower (Kd.R_new' ho0 (Kd.R_lt (by (with_reducible repeat (first | apply Kd.R_alloc | apply Kd.R_drewN | apply Kd.R_drew)); exact HO211.out))) (below_size (by repeat (first | (with_reducible first | exact HB.out | apply below_alloc | apply pw_below_drewN | apply below_drew1) | exact HB.out)))); have n2_ := Aside0.mk (below_step (by repeat (first | (with_reducible first | exact HB.out | apply below_alloc | apply pw_below_drewN | apply below_drew1) | exact HB.out)) hb); clear HO211; clear HB; have HO211 := n0_; have HO214 := n1_; have HB := n2_; clear n0_ n1_ n2_; (try clear hb); (try clear hb2); (try clear hk); (try clear hi); (try clear ho0); obtain ⟨Ao8, co8, eo8⟩ := Kd.R_slice HO211.out; subst eo8; obtain ⟨Ao9, co9, eo9⟩ := Kd.R_slice HO214.out; subst eo9) | (go_at_call 18; (with_reducible refine (bytes_Equal.calls _ _ t209 _ _ t212 t215 _ ?side1 ?side2 ?side3 ?side4 A5.out).mono ?_); (case side1 => repeat (first | exact (Kd.R_reads' HO211.out).2.2 | (with_reducible refine Kd.C_alloc ?_ _) | (with_reducible refine Kd.C_drewN ?_ _) | (with_reducible refine Kd.C_drew ?_))); (case side2 => exact (Kd.R_reads' HO211.out).2.1); (case side3 => repeat (first | exact (Kd.R_reads' HO214.out).2.2 | (with_reducible refine Kd.C_alloc ?_ _) | (with_reducible refine Kd.C_drewN ?_ _) | (with_reducible refine Kd.C_drew ?_))); (case side4 => exact (Kd.R_reads' HO214.out).2.1); rintro e w' ⟨rfl, ⟨nd, rfl⟩⟩))
    go_ret
    exact ⟨by first | rfl | (simp [errW_none, errW_some] <;> rfl) | (simp [*, errW_none, errW_some] <;> rfl), by repeat (first | (with_reducible first | exact HB.out | apply below_alloc | apply pw_below_drewN | apply below_drew1) | exact HB.out)⟩

/-- THE ONE PURE STATEMENT of laws_FnPutBase128: yours. -/
def laws_FnPutBase128.Pure : Prop := ∀ (a0 : Int), (Lit.int .i64 a0).wf = true → ∃ k, laws_FnPutBase128.f k a0 = some true
theorem laws_FnPutBase128.walk (P : laws_FnPutBase128.Pure) (a0 : Int) (w : World) (w0 : (Lit.int .i64 a0).wf = true) :
    Calls Try.prog 6 #[.int .i64 a0] w fun e w' => e = .returned (.bool true) ∧ Below w.heap.size w w' := by
  obtain ⟨k, h⟩ := P a0 w0
  refine (laws_FnPutBase128.calls k a0 true w h).mono ?_
  rintro e w' ⟨rfl, hd⟩
  exact ⟨rfl, hd⟩

/-! ### spec_Base128: function 21 -/
mutual
def spec_Base128.l0 : Nat → List Int → Int → Int → Int → Option (Int × Int × Bool)
  | 0, _, _, _, _ => none
  | k + 1, x0, x1, x7, x8 => if x8 < (x0.length : Int) then (spec_Base128.j1 k x0 x1 x7 x8 (decide (x8 < (wrap64 (x1 + 5))))) else (spec_Base128.j1 k x0 x1 x7 x8 false)
def spec_Base128.j1 : Nat → List Int → Int → Int → Int → Bool → Option (Int × Int × Bool)
  | 0, _, _, _, _, _ => none
  | k + 1, x0, x1, x7, x8, x19 => if x19 = true then (if x8 = x1 then (if 0 ≤ x8 then (if x8 < (x0.length : Int) then (spec_Base128.j2 k x0 x1 x7 x8 ((rd x0 x8) == 128)) else (none)) else (none)) else (spec_Base128.j2 k x0 x1 x7 x8 false)) else (some (0, 0, false))
def spec_Base128.j2 : Nat → List Int → Int → Int → Int → Bool → Option (Int × Int × Bool)
  | 0, _, _, _, _, _ => none
  | k + 1, x0, x1, x7, x8, x31 => if x31 = true then (some (0, 0, false)) else (if 0 ≤ x8 then (if x8 < (x0.length : Int) then (if (rd x0 x8) < 128 then (some (Go.bits .or .i64 (wrap64 (x7 * 128)) (wrap64 (Go.bits .and .u8 (rd x0 x8) 127)), wrap64 (x8 + 1), decide ((Go.bits .or .i64 (wrap64 (x7 * 128)) (wrap64 (Go.bits .and .u8 (rd x0 x8) 127))) ≤ 2147483647))) else (spec_Base128.l0 k x0 x1 (Go.bits .or .i64 (wrap64 (x7 * 128)) (wrap64 (Go.bits .and .u8 (rd x0 x8) 127))) (wrap64 (x8 + 1)))) else (none)) else (none))
end
def spec_Base128.f (k : Nat) (l0 : List Int) (a1 : Int) : Option (Int × Int × Bool) := spec_Base128.l0 k l0 a1 0 a1
theorem spec_Base128.mono_l : ∀ k, (∀ y0 y1 y2 y3, LeO (spec_Base128.l0 k y0 y1 y2 y3) (spec_Base128.l0 (k + 1) y0 y1 y2 y3)) ∧ (∀ y0 y1 y2 y3 y4, LeO (spec_Base128.j1 k y0 y1 y2 y3 y4) (spec_Base128.j1 (k + 1) y0 y1 y2 y3 y4)) ∧ (∀ y0 y1 y2 y3 y4, LeO (spec_Base128.j2 k y0 y1 y2 y3 y4) (spec_Base128.j2 (k + 1) y0 y1 y2 y3 y4))
  | 0 => ⟨fun _ _ _ _ r h => by simp [spec_Base128.l0] at h, fun _ _ _ _ _ r h => by simp [spec_Base128.j1] at h, fun _ _ _ _ _ r h => by simp [spec_Base128.j2] at h⟩
  | k + 1 => by
    obtain ⟨ih0, ih1, ih2⟩ := spec_Base128.mono_l k
    refine ⟨?_, ?_, ?_⟩
    · intro y0 y1 y2 y3
      unfold spec_Base128.l0
      repeat' first
      | (with_reducible exact ih0 _ _ _ _)
      | (with_reducible exact ih1 _ _ _ _ _)
      | (with_reducible exact ih2 _ _ _ _ _)
      | (with_reducible exact LeO.refl _)
      | (with_reducible exact LeO.none _)
      | (with_reducible refine LeO.ite ?_ ?_)
      | (with_reducible refine LeO.bind ?_ (fun _ => ?_))
      | exact ih0 _ _ _ _
      | exact ih1 _ _ _ _ _
      | exact ih2 _ _ _ _ _
      | exact LeO.none _
      | refine LeO.ite ?_ ?_
      | refine LeO.bind ?_ (fun _ => ?_)
    · intro y0 y1 y2 y3 y4
      unfold spec_Base128.j1
      repeat' first
      | (with_reducible exact ih0 _ _ _ _)
      | (with_reducible exact ih1 _ _ _ _ _)
      | (with_reducible exact ih2 _ _ _ _ _)
      | (with_reducible exact LeO.refl _)
      | (with_reducible exact LeO.none _)
      | (with_reducible refine LeO.ite ?_ ?_)
      | (with_reducible refine LeO.bind ?_ (fun _ => ?_))
      | exact ih0 _ _ _ _
      | exact ih1 _ _ _ _ _
      | exact ih2 _ _ _ _ _
      | exact LeO.none _
      | refine LeO.ite ?_ ?_
      | refine LeO.bind ?_ (fun _ => ?_)
    · intro y0 y1 y2 y3 y4
      unfold spec_Base128.j2
      repeat' first
      | (with_reducible exact ih0 _ _ _ _)
      | (with_reducible exact ih1 _ _ _ _ _)
      | (with_reducible exact ih2 _ _ _ _ _)
      | (with_reducible exact LeO.refl _)
      | (with_reducible exact LeO.none _)
      | (with_reducible refine LeO.ite ?_ ?_)
      | (with_reducible refine LeO.bind ?_ (fun _ => ?_))
      | exact ih0 _ _ _ _
      | exact ih1 _ _ _ _ _
      | exact ih2 _ _ _ _ _
      | exact LeO.none _
      | refine LeO.ite ?_ ?_
      | refine LeO.bind ?_ (fun _ => ?_)
theorem spec_Base128.mono : ∀ a0 a1 k, LeO (spec_Base128.f k a0 a1) (spec_Base128.f (k + 1) a0 a1) := by
  intro a0 a1 k
  obtain ⟨ih0, ih1, ih2⟩ := spec_Base128.mono_l k
  unfold spec_Base128.f
  repeat' first
      | (with_reducible exact ih0 _ _ _ _)
      | (with_reducible exact ih1 _ _ _ _ _)
      | (with_reducible exact ih2 _ _ _ _ _)
      | (with_reducible exact LeO.refl _)
      | (with_reducible exact LeO.none _)
      | (with_reducible refine LeO.ite ?_ ?_)
      | (with_reducible refine LeO.bind ?_ (fun _ => ?_))
      | exact ih0 _ _ _ _
      | exact ih1 _ _ _ _ _
      | exact ih2 _ _ _ _ _
      | exact LeO.none _
      | refine LeO.ite ?_ ?_
      | refine LeO.bind ?_ (fun _ => ?_)
set_option maxHeartbeats 8000000 in
set_option maxRecDepth 100000 in
theorem spec_Base128.calls (k : Nat) (A0 : Option Addr) (c0 : Nat) (l0 : List Int) (a1 : Int) (r1 : Int) (r2 : Int) (r3 : Bool) (w : World) (hr0 : Kd.C (Kd.int .u8) w A0 l0.length l0) (hc0 : l0.length ≤ c0) (h : spec_Base128.f k l0 a1 = some (r1, r2, r3)) :
    Calls Try.prog 21 #[.slice A0 l0.length c0, .int .i64 a1] w fun e w' => e = .returned (.tuple #[.int .i64 r1, .int .i64 r2, .bool r3]) ∧ Drawn0 w w' := by
  have HR0 := Aside0.mk hr0
  have HC0 := Aside0.mk hc0
  clear hr0 hc0
  have H : (spec_Base128.l0 k l0 a1 0 a1) = some (r1, r2, r3) := h
  clear h
  have H' := Aside0.mk H
  clear H
  go_enter Try.func21, Try.ntmps21
  go_wp2
  go_loopg [7, 8] k (fun kq v7 v8 w' => ∃ (x7_1 : Int) (x8_1 : Int), v7 = .int .i64 x7_1 ∧ v8 = .int .i64 x8_1 ∧ Aside0 (spec_Base128.l0 kq l0 a1 x7_1 x8_1 = some (r1, r2, r3)) ∧ Aside0 (kq ≤ k) ∧ Drawn0 w w')
  case atStart => exact ⟨(0), (a1), (by first | rfl | (simp; done) | (simp [*]; done)), (by first | rfl | (simp; done) | (simp [*]; done)), H', ⟨Nat.le_refl _⟩, by repeat (first | exact Drawn0.refl _ | apply Drawn0.step)⟩
  case round =>
    clear H'
    try clear c2
    try clear p2
    obtain ⟨x7_1, x8_1, rfl, rfl, HA, HK1, ⟨m1, rfl⟩⟩ := hrel
    cases gk with
    | zero => exact absurd HA.out (by simp [spec_Base128.l0])
    | succ k1 =>
      have H := HA.out
      clear HA
      simp only [spec_Base128.l0] at H
      have HC3 := Aside0.mk H
      clear H
      go_upto_region 3 with (fail)
      go_cut [19] (fun v19 wc => ∃ (kq : Nat) (x19_2 : Bool), v19 = .bool x19_2 ∧ Aside0 (spec_Base128.j1 kq l0 a1 x7_1 x8_1 x19_2 = some (r1, r2, r3)) ∧ Aside0 (kq ≤ k1) ∧ Drawn0 w wc)
      case first =>
        have H := HC3.out
        clear HC3
        by_cases c4 : x8_1 < (l0.length : Int)
        · rw [if_pos c4] at H
          have c4b0 : decide (x8_1 < (l0.length : Int)) = true := decide_eq_true c4
          clear c4
          (first | rw [c4b0] | (simp only [i64_w, i32_w]; rw [c4b0]) | skip)
          have H' := Aside0.mk H
          clear H
          go_wp2
          go_meet
          case rel => exact ⟨_, (decide (x8_1 < (wrap64 (a1 + 5)))), (by first | rfl | (simp; done) | (simp [*]; done)), H', ⟨by have := HK1.out; first | omega | exact Nat.le_refl _⟩, by repeat (first | exact Drawn0.refl _ | apply Drawn0.step)⟩
        · rw [if_neg c4] at H
          have c4b0 : decide (x8_1 < (l0.length : Int)) = false := decide_eq_false c4
          clear c4
          (first | rw [c4b0] | (simp only [i64_w, i32_w]; rw [c4b0]) | skip)
          have H' := Aside0.mk H
          clear H
          go_wp2
          go_meet
          case rel => exact ⟨_, (false), (by first | rfl | (simp; done) | (simp [*]; done)), H', ⟨by have := HK1.out; first | omega | exact Nat.le_refl _⟩, by repeat (first | exact Drawn0.refl _ | apply Drawn0.step)⟩
      case rest =>
        clear HC3
        try clear c2
        try clear p2
        try clear c4
        try clear c4b0
        try clear p2
        obtain ⟨kq, x19_2, rfl, HA, HJ2, ⟨mc2, rfl⟩⟩ := hcut
        cases kq with
        | zero => exact absurd HA.out (by simp [spec_Base128.j1])
        | succ kj2 =>
          have H := HA.out
          clear HA
          simp only [spec_Base128.j1] at H
          by_cases c5 : x19_2 = true
          · subst c5
            have H1 : (if x8_1 = a1 then (if 0 ≤ x8_1 then (if x8_1 < (l0.length : Int) then (spec_Base128.j2 kj2 l0 a1 x7_1 x8_1 ((rd l0 x8_1) == 128)) else (none)) else (none)) else (spec_Base128.j2 kj2 l0 a1 x7_1 x8_1 false)) = some (r1, r2, r3) := by rw [if_pos rfl] at H; exact H
            clear H
            have H := H1
            clear H1
            have HC6 := Aside0.mk H
            clear H
            go_upto_region 5 with (fail)
            go_cut [31] (fun v31 wc => ∃ (kq : Nat) (x31_5 : Bool), v31 = .bool x31_5 ∧ Aside0 (spec_Base128.j2 kq l0 a1 x7_1 x8_1 x31_5 = some (r1, r2, r3)) ∧ Aside0 (kq ≤ kj2) ∧ Drawn0 w wc)
            case first =>
              have H := HC6.out
              clear HC6
              by_cases c7 : x8_1 = a1
              · rw [if_pos c7] at H
                have c7b0 : (x8_1 == a1) = true := beq_iff_eq.mpr c7
                have c7b1 : (x8_1 != a1) = false := bne_eq_false_iff_eq.mpr c7
                clear c7
                (first | rw [c7b0] | (simp only [i64_w, i32_w]; rw [c7b0]) | skip)
                by_cases c8 : 0 ≤ x8_1
                · rw [if_pos c8] at H
                  have c8b0 : decide (0 ≤ x8_1) = true := decide_eq_true c8
                  clear c8
                  by_cases c9 : x8_1 < (l0.length : Int)
                  · rw [if_pos c9] at H
                    have c9b0 : decide (x8_1 < (l0.length : Int)) = true := decide_eq_true c9
                    clear c9
                    have H' := Aside0.mk H
                    clear H
                    have p216 : 0 ≤ (x8_1 : Int) := of_decide_eq_true (by first | (with_reducible assumption) | assumption)
                    have q216 : x8_1 < (l0.length : Int) := of_decide_eq_true (by first | (with_reducible assumption) | assumption)
                    obtain ⟨ad216, e216, hx216_0⟩ := Kd.at_int HR0.out x8_1 p216 q216
                    cases e216
                    replace p216 := eq_true p216
                    replace q216 := eq_true q216
                    go_wp2
                    go_meet
                    case rel => exact ⟨_, (((rd l0 x8_1) == 128)), (by first | rfl | (simp; done) | (simp [*]; done)), H', ⟨by have := HK1.out; have := HJ2.out; first | omega | exact Nat.le_refl _⟩, by repeat (first | exact Drawn0.refl _ | apply Drawn0.step)⟩
                  · rw [if_neg c9] at H
                    exact absurd H (by simp)
                · rw [if_neg c8] at H
                  exact absurd H (by simp)
              · rw [if_neg c7] at H
                have c7b0 : (x8_1 == a1) = false := beq_eq_false_iff_ne.mpr c7
                have c7b1 : (x8_1 != a1) = true := bne_iff_ne.mpr c7
                (first | rw [c7b0] | (simp only [i64_w, i32_w]; rw [c7b0]) | skip)
                have H' := Aside0.mk H
                clear H
                go_wp2
                go_meet
                case rel => exact ⟨_, (false), (by first | rfl | (simp; done) | (simp [*]; done)), H', ⟨by have := HK1.out; have := HJ2.out; first | omega | exact Nat.le_refl _⟩, by repeat (first | exact Drawn0.refl _ | apply Drawn0.step)⟩
            case rest =>
              clear HC6
              try clear c2
              try clear p2
              try clear q2
              try clear hx2
              try clear c4
              try clear c4b0
              try clear c5
              try clear p6
              try clear c7
              try clear c7b0
              try clear c7b1
              try clear c8
              try clear c8b0
              try clear c9
              try clear c9b0
              try clear hx216_0
              try clear p2
              try clear p216
              try clear q216
              obtain ⟨kq, x31_5, rfl, HA, HJ5, ⟨mc5, rfl⟩⟩ := hcut
              cases kq with
              | zero => exact absurd HA.out (by simp [spec_Base128.j2])
              | succ kj5 =>
                have H := HA.out
                clear HA
                simp only [spec_Base128.j2] at H
                by_cases c10 : x31_5 = true
                · subst c10
                  have H1 : (some (0, 0, false)) = some (r1, r2, r3) := by rw [if_pos rfl] at H; exact H
                  clear H
                  have H := H1
                  clear H1
                  simp only [Option.some.injEq, Prod.mk.injEq] at H
                  obtain ⟨rfl, rfl, rfl⟩ := H
                  go_wp2
                  go_ret3
                  exact ⟨by first | rfl | (simp; done) | (simp [*]; done), by repeat (first | exact Drawn0.refl _ | apply Drawn0.step)⟩
                · replace c10 := Bool.eq_false_iff.mpr c10
                  subst c10
                  have H1 : (if 0 ≤ x8_1 then (if x8_1 < (l0.length : Int) then (if (rd l0 x8_1) < 128 then (some (Go.bits .or .i64 (wrap64 (x7_1 * 128)) (wrap64 (Go.bits .and .u8 (rd l0 x8_1) 127)), wrap64 (x8_1 + 1), decide ((Go.bits .or .i64 (wrap64 (x7_1 * 128)) (wrap64 (Go.bits .and .u8 (rd l0 x8_1) 127))) ≤ 2147483647))) else (spec_Base128.l0 kj5 l0 a1 (Go.bits .or .i64 (wrap64 (x7_1 * 128)) (wrap64 (Go.bits .and .u8 (rd l0 x8_1) 127))) (wrap64 (x8_1 + 1)))) else (none)) else (none)) = some (r1, r2, r3) := by rw [if_neg (show ¬ (false = true) by decide)] at H; exact H
                  clear H
                  have H := H1
                  clear H1
                  by_cases c11 : 0 ≤ x8_1
                  · rw [if_pos c11] at H
                    have c11b0 : decide (0 ≤ x8_1) = true := decide_eq_true c11
                    clear c11
                    by_cases c12 : x8_1 < (l0.length : Int)
                    · rw [if_pos c12] at H
                      have c12b0 : decide (x8_1 < (l0.length : Int)) = true := decide_eq_true c12
                      clear c12
                      by_cases c13 : (rd l0 x8_1) < 128
                      · rw [if_pos c13] at H
                        have c13b0 : decide ((rd l0 x8_1) < 128) = true := decide_eq_true c13
                        clear c13
                        simp only [Option.some.injEq, Prod.mk.injEq] at H
                        obtain ⟨rfl, rfl, rfl⟩ := H
                        have p217 : 0 ≤ (x8_1 : Int) := of_decide_eq_true (by first | (with_reducible assumption) | assumption)
                        have q217 : x8_1 < (l0.length : Int) := of_decide_eq_true (by first | (with_reducible assumption) | assumption)
                        obtain ⟨ad217, e217, hx217_0⟩ := Kd.at_int HR0.out x8_1 p217 q217
                        cases e217
                        replace p217 := eq_true p217
                        replace q217 := eq_true q217
                        have p218 : 0 ≤ (x8_1 : Int) := of_decide_eq_true (by first | (with_reducible assumption) | assumption)
                        have q218 : x8_1 < (l0.length : Int) := of_decide_eq_true (by first | (with_reducible assumption) | assumption)
                        obtain ⟨ad218, e218, hx218_0⟩ := Kd.at_int HR0.out x8_1 p218 q218
                        obtain rfl : ad217 = ad218 := (by injection e218)
                        replace p218 := eq_true p218
                        replace q218 := eq_true q218
                        go_wp2
                        go_ret3
                        exact ⟨by first | rfl | (simp; done) | (simp [*]; done), by repeat (first | exact Drawn0.refl _ | apply Drawn0.step)⟩
                      · rw [if_neg c13] at H
                        have c13b0 : decide ((rd l0 x8_1) < 128) = false := decide_eq_false c13
                        clear c13
                        have H' := Aside0.mk H
                        clear H
                        have p217 : 0 ≤ (x8_1 : Int) := of_decide_eq_true (by first | (with_reducible assumption) | assumption)
                        have q217 : x8_1 < (l0.length : Int) := of_decide_eq_true (by first | (with_reducible assumption) | assumption)
                        obtain ⟨ad217, e217, hx217_0⟩ := Kd.at_int HR0.out x8_1 p217 q217
                        cases e217
                        replace p217 := eq_true p217
                        replace q217 := eq_true q217
                        have p218 : 0 ≤ (x8_1 : Int) := of_decide_eq_true (by first | (with_reducible assumption) | assumption)
                        have q218 : x8_1 < (l0.length : Int) := of_decide_eq_true (by first | (with_reducible assumption) | assumption)
                        obtain ⟨ad218, e218, hx218_0⟩ := Kd.at_int HR0.out x8_1 p218 q218
                        obtain rfl : ad217 = ad218 := (by injection e218)
                        replace p218 := eq_true p218
                        replace q218 := eq_true q218
                        go_wp2
                        go_roundg kj5
                        case measure => have := HK1.out; have := HJ2.out; have := HJ5.out; omega
                        case rel => exact ⟨(Go.bits .or .i64 (wrap64 (x7_1 * 128)) (wrap64 (Go.bits .and .u8 (rd l0 x8_1) 127))), (wrap64 (x8_1 + 1)), (by first | rfl | (simp; done) | (simp [*]; done)), (by first | rfl | (simp; done) | (simp [*]; done)), H', ⟨by have := HK1.out; have := HJ2.out; have := HJ5.out; omega⟩, by repeat (first | exact Drawn0.refl _ | apply Drawn0.step)⟩
                    · rw [if_neg c12] at H
                      exact absurd H (by simp)
                  · rw [if_neg c11] at H
                    exact absurd H (by simp)
          · replace c5 := Bool.eq_false_iff.mpr c5
            subst c5
            have H1 : (some (0, 0, false)) = some (r1, r2, r3) := by rw [if_neg (show ¬ (false = true) by decide)] at H; exact H
            clear H
            have H := H1
            clear H1
            simp only [Option.some.injEq, Prod.mk.injEq] at H
            obtain ⟨rfl, rfl, rfl⟩ := H
            go_wp2
            go_ret3
            exact ⟨by first | rfl | (simp; done) | (simp [*]; done), by repeat (first | exact Drawn0.refl _ | apply Drawn0.step)⟩

/-! ### asn1_parseBase128Int: function 51 -/
mutual
def asn1_parseBase128Int.l0 : Nat → List Int → Int → Int → Option Int → Int → Int → Option (Int × Int × Option Int)
  | 0, _, _, _, _, _, _ => none
  | k + 1, x0, x4, x5, x6, x7, x8 => if x5 < (x0.length : Int) then (if x8 = 5 then (some (x4, x5, some 6)) else (if 0 ≤ x5 then (if x8 = 0 then (asn1_parseBase128Int.j1 k x0 x4 x5 x6 (wrap64 (x7 * 128)) x8 (rd x0 x5) ((rd x0 x5) == 128)) else (asn1_parseBase128Int.j1 k x0 x4 x5 x6 (wrap64 (x7 * 128)) x8 (rd x0 x5) false)) else (none))) else (some (x4, x5, some 5))
def asn1_parseBase128Int.j1 : Nat → List Int → Int → Int → Option Int → Int → Int → Int → Bool → Option (Int × Int × Option Int)
  | 0, _, _, _, _, _, _, _, _ => none
  | k + 1, x0, x4, x5, x6, x7, x8, x9, x32 => if x32 = true then (some (x4, x5, some 7)) else (if (Go.bits .and .u8 x9 128) = 0 then (if (Go.bits .or .i64 x7 (wrap64 (Go.bits .and .u8 x9 127))) > 2147483647 then (some (Go.bits .or .i64 x7 (wrap64 (Go.bits .and .u8 x9 127)), wrap64 (x5 + 1), some 6)) else (some (Go.bits .or .i64 x7 (wrap64 (Go.bits .and .u8 x9 127)), wrap64 (x5 + 1), x6))) else (asn1_parseBase128Int.l0 k x0 x4 (wrap64 (x5 + 1)) x6 (Go.bits .or .i64 x7 (wrap64 (Go.bits .and .u8 x9 127))) (wrap64 (x8 + 1))))
end
def asn1_parseBase128Int.f (k : Nat) (l0 : List Int) (a1 : Int) : Option (Int × Int × Option Int) := asn1_parseBase128Int.l0 k l0 0 a1 none 0 0
theorem asn1_parseBase128Int.mono_l : ∀ k, (∀ y0 y1 y2 y3 y4 y5, LeO (asn1_parseBase128Int.l0 k y0 y1 y2 y3 y4 y5) (asn1_parseBase128Int.l0 (k + 1) y0 y1 y2 y3 y4 y5)) ∧ (∀ y0 y1 y2 y3 y4 y5 y6 y7, LeO (asn1_parseBase128Int.j1 k y0 y1 y2 y3 y4 y5 y6 y7) (asn1_parseBase128Int.j1 (k + 1) y0 y1 y2 y3 y4 y5 y6 y7))
  | 0 => ⟨fun _ _ _ _ _ _ r h => by simp [asn1_parseBase128Int.l0] at h, fun _ _ _ _ _ _ _ _ r h => by simp [asn1_parseBase128Int.j1] at h⟩
  | k + 1 => by
    obtain ⟨ih0, ih1⟩ := asn1_parseBase128Int.mono_l k
    refine ⟨?_, ?_⟩
    · intro y0 y1 y2 y3 y4 y5
      unfold asn1_parseBase128Int.l0
      repeat' first
      | (with_reducible exact ih0 _ _ _ _ _ _)
      | (with_reducible exact ih1 _ _ _ _ _ _ _ _)
      | (with_reducible exact LeO.refl _)
      | (with_reducible exact LeO.none _)
      | (with_reducible refine LeO.ite ?_ ?_)
      | (with_reducible refine LeO.bind ?_ (fun _ => ?_))
      | exact ih0 _ _ _ _ _ _
      | exact ih1 _ _ _ _ _ _ _ _
      | exact LeO.none _
      | refine LeO.ite ?_ ?_
      | refine LeO.bind ?_ (fun _ => ?_)
    · intro y0 y1 y2 y3 y4 y5 y6 y7
      unfold asn1_parseBase128Int.j1
      repeat' first
      | (with_reducible exact ih0 _ _ _ _ _ _)
      | (with_reducible exact ih1 _ _ _ _ _ _ _ _)
      | (with_reducible exact LeO.refl _)
      | (with_reducible exact LeO.none _)
      | (with_reducible refine LeO.ite ?_ ?_)
      | (with_reducible refine LeO.bind ?_ (fun _ => ?_))
      | exact ih0 _ _ _ _ _ _
      | exact ih1 _ _ _ _ _ _ _ _
      | exact LeO.none _
      | refine LeO.ite ?_ ?_
      | refine LeO.bind ?_ (fun _ => ?_)
theorem asn1_parseBase128Int.mono : ∀ a0 a1 k, LeO (asn1_parseBase128Int.f k a0 a1) (asn1_parseBase128Int.f (k + 1) a0 a1) := by
  intro a0 a1 k
  obtain ⟨ih0, ih1⟩ := asn1_parseBase128Int.mono_l k
  unfold asn1_parseBase128Int.f
  repeat' first
      | (with_reducible exact ih0 _ _ _ _ _ _)
      | (with_reducible exact ih1 _ _ _ _ _ _ _ _)
      | (with_reducible exact LeO.refl _)
      | (with_reducible exact LeO.none _)
      | (with_reducible refine LeO.ite ?_ ?_)
      | (with_reducible refine LeO.bind ?_ (fun _ => ?_))
      | exact ih0 _ _ _ _ _ _
      | exact ih1 _ _ _ _ _ _ _ _
      | exact LeO.none _
      | refine LeO.ite ?_ ?_
      | refine LeO.bind ?_ (fun _ => ?_)
set_option maxHeartbeats 8000000 in
set_option maxRecDepth 100000 in
theorem asn1_parseBase128Int.calls (k : Nat) (A0 : Option Addr) (c0 : Nat) (l0 : List Int) (a1 : Int) (r1 : Int) (r2 : Int) (r3 : Option Int) (w : World) (hr0 : Kd.C (Kd.int .u8) w A0 l0.length l0) (hc0 : l0.length ≤ c0) (h : asn1_parseBase128Int.f k l0 a1 = some (r1, r2, r3)) :
    Calls Try.prog 51 #[.slice A0 l0.length c0, .int .i64 a1] w fun e w' => e = .returned (.tuple #[.int .i64 r1, .int .i64 r2, errW r3]) ∧ Drawn0 w w' := by
  have hu86 := Try.underlying86
  have hu87 := Try.underlying87
  have hu58 := Try.underlying58
  have HR0 := Aside0.mk hr0
  have HC0 := Aside0.mk hc0
  clear hr0 hc0
  have H : (asn1_parseBase128Int.l0 k l0 0 a1 none 0 0) = some (r1, r2, r3) := h
  clear h
  have H' := Aside0.mk H
  clear H
  go_enter Try.func51, Try.ntmps51
  go_wp2
  go_loopg [4, 5, 6, 7, 8] k (fun kq v4 v5 v6 v7 v8 w' => ∃ (x4_1 : Int) (x5_1 : Int) (x6_1 : Option Int) (x7_1 : Int) (x8_1 : Int), v4 = .int .i64 x4_1 ∧ v5 = .int .i64 x5_1 ∧ v6 = errW x6_1 ∧ v7 = .int .i64 x7_1 ∧ v8 = .int .i64 x8_1 ∧ Aside0 (asn1_parseBase128Int.l0 kq l0 x4_1 x5_1 x6_1 x7_1 x8_1 = some (r1, r2, r3)) ∧ Aside0 (kq ≤ k) ∧ Drawn0 w w')
  case atStart => exact ⟨(0), (a1), (none), (0), (0), (by first | rfl | (simp; done) | (simp [*]; done)), (by first | rfl | (simp; done) | (simp [*]; done)), (by first | rfl | (simp; done) | (simp [*]; done)), (by first | rfl | (simp; done) | (simp [*]; done)), (by first | rfl | (simp; done) | (simp [*]; done)), H', ⟨Nat.le_refl _⟩, by repeat (first | exact Drawn0.refl _ | apply Drawn0.step)⟩
  case round =>
    clear H'
    try clear p2
    obtain ⟨x4_1, x5_1, x6_1, x7_1, x8_1, rfl, rfl, rfl, rfl, rfl, HA, HK1, ⟨m1, rfl⟩⟩ := hrel
    cases gk with
    | zero => exact absurd HA.out (by simp [asn1_parseBase128Int.l0])
    | succ k1 =>
      have H := HA.out
      clear HA
      simp only [asn1_parseBase128Int.l0] at H
      by_cases c3 : x5_1 < (l0.length : Int)
      · rw [if_pos c3] at H
        have c3b0 : decide (x5_1 < (l0.length : Int)) = true := decide_eq_true c3
        clear c3
        by_cases c4 : x8_1 = 5
        · rw [if_pos c4] at H
          have c4b0 : (x8_1 == 5) = true := beq_iff_eq.mpr c4
          have c4b1 : (x8_1 != 5) = false := bne_eq_false_iff_eq.mpr c4
          clear c4
          simp only [Option.some.injEq, Prod.mk.injEq] at H
          obtain ⟨rfl, rfl, rfl⟩ := H
          go_wp2
          go_ret3
          exact ⟨by first | rfl | (simp; done) | (simp [*]; done), by repeat (first | exact Drawn0.refl _ | apply Drawn0.step)⟩
        · rw [if_neg c4] at H
          have c4b0 : (x8_1 == 5) = false := beq_eq_false_iff_ne.mpr c4
          have c4b1 : (x8_1 != 5) = true := bne_iff_ne.mpr c4
          by_cases c5 : 0 ≤ x5_1
          · rw [if_pos c5] at H
            have c5b0 : decide (0 ≤ x5_1) = true := decide_eq_true c5
            clear c5
            have HC6 := Aside0.mk H
            clear H
            have p219 : 0 ≤ (x5_1 : Int) := of_decide_eq_true (by first | (with_reducible assumption) | assumption)
            have q219 : x5_1 < (l0.length : Int) := of_decide_eq_true (by first | (with_reducible assumption) | assumption)
            obtain ⟨ad219, e219, hx219_0⟩ := Kd.at_int HR0.out x5_1 p219 q219
            cases e219
            replace p219 := eq_true p219
            replace q219 := eq_true q219
            go_upto_region 10 with (fail)
            go_cut [32] (fun v32 wc => ∃ (kq : Nat) (x32_5 : Bool), v32 = .bool x32_5 ∧ Aside0 (asn1_parseBase128Int.j1 kq l0 x4_1 x5_1 x6_1 (wrap64 (x7_1 * 128)) x8_1 (rd l0 x5_1) x32_5 = some (r1, r2, r3)) ∧ Aside0 (kq ≤ k1) ∧ Drawn0 w wc)
            case first =>
              have H := HC6.out
              clear HC6
              by_cases c7 : x8_1 = 0
              · rw [if_pos c7] at H
                have c7b0 : (x8_1 == 0) = true := beq_iff_eq.mpr c7
                have c7b1 : (x8_1 != 0) = false := bne_eq_false_iff_eq.mpr c7
                clear c7
                (first | rw [c7b0] | (simp only [i64_w, i32_w]; rw [c7b0]) | skip)
                have H' := Aside0.mk H
                clear H
                go_wp2
                go_meet
                case rel => exact ⟨_, (((rd l0 x5_1) == 128)), (by first | rfl | (simp; done) | (simp [*]; done)), H', ⟨by have := HK1.out; first | omega | exact Nat.le_refl _⟩, by repeat (first | exact Drawn0.refl _ | apply Drawn0.step)⟩
              · rw [if_neg c7] at H
                have c7b0 : (x8_1 == 0) = false := beq_eq_false_iff_ne.mpr c7
                have c7b1 : (x8_1 != 0) = true := bne_iff_ne.mpr c7
                (first | rw [c7b0] | (simp only [i64_w, i32_w]; rw [c7b0]) | skip)
                have H' := Aside0.mk H
                clear H
                go_wp2
                go_meet
                case rel => exact ⟨_, (false), (by first | rfl | (simp; done) | (simp [*]; done)), H', ⟨by have := HK1.out; first | omega | exact Nat.le_refl _⟩, by repeat (first | exact Drawn0.refl _ | apply Drawn0.step)⟩
            case rest =>
              clear HC6
              try clear p2
              try clear q2
              try clear hx2
              try clear c3
              try clear c3b0
              try clear c4
              try clear c4b0
              try clear c4b1
              try clear c5
              try clear c5b0
              try clear p6
              try clear c7
              try clear c7b0
              try clear c7b1
              try clear hx219_0
              try clear p2
              try clear p219
              try clear q219
              obtain ⟨kq, x32_5, rfl, HA, HJ5, ⟨mc5, rfl⟩⟩ := hcut
              cases kq with
              | zero => exact absurd HA.out (by simp [asn1_parseBase128Int.j1])
              | succ kj5 =>
                have H := HA.out
                clear HA
                simp only [asn1_parseBase128Int.j1] at H
                by_cases c8 : x32_5 = true
                · subst c8
                  have H1 : (some (x4_1, x5_1, some 7)) = some (r1, r2, r3) := by rw [if_pos rfl] at H; exact H
                  clear H
                  have H := H1
                  clear H1
                  simp only [Option.some.injEq, Prod.mk.injEq] at H
                  obtain ⟨rfl, rfl, rfl⟩ := H
                  go_wp2
                  go_ret3
                  exact ⟨by first | rfl | (simp; done) | (simp [*]; done), by repeat (first | exact Drawn0.refl _ | apply Drawn0.step)⟩
                · replace c8 := Bool.eq_false_iff.mpr c8
                  subst c8
                  have H1 : (if (Go.bits .and .u8 (rd l0 x5_1) 128) = 0 then (if (Go.bits .or .i64 (wrap64 (x7_1 * 128)) (wrap64 (Go.bits .and .u8 (rd l0 x5_1) 127))) > 2147483647 then (some (Go.bits .or .i64 (wrap64 (x7_1 * 128)) (wrap64 (Go.bits .and .u8 (rd l0 x5_1) 127)), wrap64 (x5_1 + 1), some 6)) else (some (Go.bits .or .i64 (wrap64 (x7_1 * 128)) (wrap64 (Go.bits .and .u8 (rd l0 x5_1) 127)), wrap64 (x5_1 + 1), x6_1))) else (asn1_parseBase128Int.l0 kj5 l0 x4_1 (wrap64 (x5_1 + 1)) x6_1 (Go.bits .or .i64 (wrap64 (x7_1 * 128)) (wrap64 (Go.bits .and .u8 (rd l0 x5_1) 127))) (wrap64 (x8_1 + 1)))) = some (r1, r2, r3) := by rw [if_neg (show ¬ (false = true) by decide)] at H; exact H
                  clear H
                  have H := H1
                  clear H1
                  by_cases c9 : (Go.bits .and .u8 (rd l0 x5_1) 128) = 0
                  · rw [if_pos c9] at H
                    have c9b0 : ((Go.bits .and .u8 (rd l0 x5_1) 128) == 0) = true := beq_iff_eq.mpr c9
                    have c9b1 : ((Go.bits .and .u8 (rd l0 x5_1) 128) != 0) = false := bne_eq_false_iff_eq.mpr c9
                    clear c9
                    by_cases c10 : (Go.bits .or .i64 (wrap64 (x7_1 * 128)) (wrap64 (Go.bits .and .u8 (rd l0 x5_1) 127))) > 2147483647
                    · rw [if_pos c10] at H
                      have c10b0 : decide (2147483647 < (Go.bits .or .i64 (wrap64 (x7_1 * 128)) (wrap64 (Go.bits .and .u8 (rd l0 x5_1) 127)))) = true := decide_eq_true c10
                      clear c10
                      simp only [Option.some.injEq, Prod.mk.injEq] at H
                      obtain ⟨rfl, rfl, rfl⟩ := H
                      go_wp2
                      go_ret3
                      exact ⟨by first | rfl | (simp; done) | (simp [*]; done), by repeat (first | exact Drawn0.refl _ | apply Drawn0.step)⟩
                    · rw [if_neg c10] at H
                      have c10b0 : decide (2147483647 < (Go.bits .or .i64 (wrap64 (x7_1 * 128)) (wrap64 (Go.bits .and .u8 (rd l0 x5_1) 127)))) = false := decide_eq_false c10
                      clear c10
                      simp only [Option.some.injEq, Prod.mk.injEq] at H
                      obtain ⟨rfl, rfl, rfl⟩ := H
                      go_wp2
                      go_ret3
                      exact ⟨by first | rfl | (simp; done) | (simp [*]; done), by repeat (first | exact Drawn0.refl _ | apply Drawn0.step)⟩
                  · rw [if_neg c9] at H
                    have c9b0 : ((Go.bits .and .u8 (rd l0 x5_1) 128) == 0) = false := beq_eq_false_iff_ne.mpr c9
                    have c9b1 : ((Go.bits .and .u8 (rd l0 x5_1) 128) != 0) = true := bne_iff_ne.mpr c9
                    have H' := Aside0.mk H
                    clear H
                    go_wp2
                    go_roundg kj5
                    case measure => have := HK1.out; have := HJ5.out; omega
                    case rel => exact ⟨(x4_1), (wrap64 (x5_1 + 1)), (x6_1), (Go.bits .or .i64 (wrap64 (x7_1 * 128)) (wrap64 (Go.bits .and .u8 (rd l0 x5_1) 127))), (wrap64 (x8_1 + 1)), (by first | rfl | (simp; done) | (simp [*]; done)), (by first | rfl | (simp; done) | (simp [*]; done)), (by first | rfl | (simp; done) | (simp [*]; done)), (by first | rfl | (simp; done) | (simp [*]; done)), (by first | rfl | (simp; done) | (simp [*]; done)), H', ⟨by have := HK1.out; have := HJ5.out; omega⟩, by repeat (first | exact Drawn0.refl _ | apply Drawn0.step)⟩
          · rw [if_neg c5] at H
            exact absurd H (by simp)
      · rw [if_neg c3] at H
        have c3b0 : decide (x5_1 < (l0.length : Int)) = false := decide_eq_false c3
        clear c3
        simp only [Option.some.injEq, Prod.mk.injEq] at H
        obtain ⟨rfl, rfl, rfl⟩ := H
        go_wp2
        go_ret3
        exact ⟨by first | rfl | (simp; done) | (simp [*]; done), by repeat (first | exact Drawn0.refl _ | apply Drawn0.step)⟩

/-! ### asn1_ZZBase128: function 41 -/
def asn1_ZZBase128.f (k : Nat) (l0 : List Int) (a1 : Int) : Option (Int × Int × Option Int) := (asn1_parseBase128Int.f k l0 a1).bind fun bt220 => (some (bt220.1, bt220.2.1, bt220.2.2))
theorem asn1_ZZBase128.mono : ∀ a0 a1 k, LeO (asn1_ZZBase128.f k a0 a1) (asn1_ZZBase128.f (k + 1) a0 a1) := by
  intro a0 a1 k
  unfold asn1_ZZBase128.f
  repeat' first
      | (with_reducible exact asn1_parseBase128Int.mono _ _ _)
      | (with_reducible exact LeO.refl _)
      | (with_reducible exact LeO.none _)
      | (with_reducible refine LeO.ite ?_ ?_)
      | (with_reducible refine LeO.bind ?_ (fun _ => ?_))
      | exact asn1_parseBase128Int.mono _ _ _
      | exact LeO.none _
      | refine LeO.ite ?_ ?_
      | refine LeO.bind ?_ (fun _ => ?_)
set_option maxHeartbeats 8000000 in
set_option maxRecDepth 100000 in
theorem asn1_ZZBase128.calls (k : Nat) (A0 : Option Addr) (c0 : Nat) (l0 : List Int) (a1 : Int) (r1 : Int) (r2 : Int) (r3 : Option Int) (w : World) (hr0 : Kd.C (Kd.int .u8) w A0 l0.length l0) (hc0 : l0.length ≤ c0) (h : asn1_ZZBase128.f k l0 a1 = some (r1, r2, r3)) :
    Calls Try.prog 41 #[.slice A0 l0.length c0, .int .i64 a1] w fun e w' => e = .returned (.tuple #[.int .i64 r1, .int .i64 r2, errW r3]) ∧ Drawn0 w w' := by
  have HR0 := Aside0.mk hr0
  have HC0 := Aside0.mk hc0
  clear hr0 hc0
  have H : ((asn1_parseBase128Int.f k l0 a1).bind fun bt220 => (some (bt220.1, bt220.2.1, bt220.2.2))) = some (r1, r2, r3) := h
  clear h
  replace H := Option.bind_eq_some_iff.mp H
  obtain ⟨⟨t220, t221, t222⟩, A30, H⟩ := H
  replace H : (some (t220, t221, t222)) = some (r1, r2, r3) := H
  have A3 := Aside0.mk A30
  clear A30
  simp only [Option.some.injEq, Prod.mk.injEq] at H
  obtain ⟨rfl, rfl, rfl⟩ := H
  go_enter Try.func41, Try.ntmps41
  go_wp2_with (first | ((with_reducible refine gate_callee (f := 51) rfl ?_); refine goesL_ (some 9) rfl rfl Try.func51 (by kernel_rfl) rfl #[.slice A0 l0.length c0, .int .i64 a1] rfl (by (try simp only [List.map_toArray, List.map_cons, List.map_nil]); first | done | rfl | (simp only [List.length_drop, List.length_take]; rfl)) ?_; (with_reducible refine (asn1_parseBase128Int.calls k _ _ l0 a1 t220 t221 t222 _ ?side1 ?side2 A3.out).mono ?_); (case side1 => repeat (first | exact HR0.out | (with_reducible refine Kd.C_alloc ?_ _) | (with_reducible refine Kd.C_drewN ?_ _) | (with_reducible refine Kd.C_drew ?_))); (case side2 => exact HC0.out); rintro e w' ⟨rfl, ⟨nd, rfl⟩⟩; refine ⟨_, rfl, ?_⟩; (try simp only [errW_none, errW_some])))
  go_ret3
  exact ⟨by first | rfl | (simp; done) | (simp [*]; done), by repeat (first | exact Drawn0.refl _ | apply Drawn0.step)⟩

/-! ### impl_ReadBase128: function 22 -/
def impl_ReadBase128.j0 : Nat → List Int → Int → Bool → Option (Int × Int × Bool)
  | 0, _, _, _ => none
  | k + 1, x0, x1, x16 => if x16 = true then (some (0, 0, false)) else ((impl_copied.f x0).bind fun t224 => ((asn1_ZZBase128.f k t224 x1).bind fun bt227 => (if bt227.2.2.isNone = true then (some (bt227.1, bt227.2.1, true)) else (some (0, 0, false)))))
def impl_ReadBase128.f (k : Nat) (l0 : List Int) (a1 : Int) : Option (Int × Int × Bool) := (impl_short.f l0).bind fun t223 => (if t223 = true then (impl_ReadBase128.j0 k l0 a1 (decide (a1 < 0))) else (impl_ReadBase128.j0 k l0 a1 true))
theorem impl_ReadBase128.mono_l : ∀ k, (∀ y0 y1 y2, LeO (impl_ReadBase128.j0 k y0 y1 y2) (impl_ReadBase128.j0 (k + 1) y0 y1 y2))
  | 0 => fun _ _ _ r h => by simp [impl_ReadBase128.j0] at h
  | k + 1 => by
    have ih0 := impl_ReadBase128.mono_l k
    · intro y0 y1 y2
      unfold impl_ReadBase128.j0
      repeat' first
      | (with_reducible exact ih0 _ _ _)
      | (with_reducible exact asn1_ZZBase128.mono _ _ _)
      | (with_reducible exact LeO.refl _)
      | (with_reducible exact LeO.none _)
      | (with_reducible refine LeO.ite ?_ ?_)
      | (with_reducible refine LeO.bind ?_ (fun _ => ?_))
      | exact ih0 _ _ _
      | exact asn1_ZZBase128.mono _ _ _
      | exact LeO.none _
      | refine LeO.ite ?_ ?_
      | refine LeO.bind ?_ (fun _ => ?_)
theorem impl_ReadBase128.mono : ∀ a0 a1 k, LeO (impl_ReadBase128.f k a0 a1) (impl_ReadBase128.f (k + 1) a0 a1) := by
  intro a0 a1 k
  have ih0 := impl_ReadBase128.mono_l k
  unfold impl_ReadBase128.f
  repeat' first
      | (with_reducible exact ih0 _ _ _)
      | (with_reducible exact asn1_ZZBase128.mono _ _ _)
      | (with_reducible exact LeO.refl _)
      | (with_reducible exact LeO.none _)
      | (with_reducible refine LeO.ite ?_ ?_)
      | (with_reducible refine LeO.bind ?_ (fun _ => ?_))
      | exact ih0 _ _ _
      | exact asn1_ZZBase128.mono _ _ _
      | exact LeO.none _
      | refine LeO.ite ?_ ?_
      | refine LeO.bind ?_ (fun _ => ?_)
set_option maxHeartbeats 8000000 in
set_option maxRecDepth 100000 in
theorem impl_ReadBase128.calls (k : Nat) (A0 : Option Addr) (c0 : Nat) (l0 : List Int) (a1 : Int) (r1 : Int) (r2 : Int) (r3 : Bool) (w : World) (hr0 : Kd.C (Kd.int .u8) w A0 l0.length l0) (hc0 : l0.length ≤ c0) (h : impl_ReadBase128.f k l0 a1 = some (r1, r2, r3)) :
    Calls Try.prog 22 #[.slice A0 l0.length c0, .int .i64 a1] w fun e w' => e = .returned (.tuple #[.int .i64 r1, .int .i64 r2, .bool r3]) ∧ Below w.heap.size w w' := by
  have hu58 := Try.underlying58
  have HR0 := Aside0.mk hr0
  have HC0 := Aside0.mk hc0
  clear hr0 hc0
  have HB := Aside0.mk (Below.refl w.heap.size w)
  have H : ((impl_short.f l0).bind fun t223 => (if t223 = true then (impl_ReadBase128.j0 k l0 a1 (decide (a1 < 0))) else (impl_ReadBase128.j0 k l0 a1 true))) = some (r1, r2, r3) := h
  clear h
  have HC3 := Aside0.mk H
  clear H
  go_enter Try.func22, Try.ntmps22
  go_upto_region 1 with (fail)
  go_cut [16] (fun v16 wc => ∃ (kq : Nat) (x16_2 : Bool), v16 = .bool x16_2 ∧ Aside0 (impl_ReadBase128.j0 kq l0 a1 x16_2 = some (r1, r2, r3)) ∧ Aside0 (kq ≤ k) ∧ Aside0 (Below w.heap.size w wc))
  case first =>
    have H := HC3.out
    clear HC3
    replace H := Option.bind_eq_some_iff.mp H
    obtain ⟨t223, A40, H⟩ := H
    replace H : (if t223 = true then (impl_ReadBase128.j0 k l0 a1 (decide (a1 < 0))) else (impl_ReadBase128.j0 k l0 a1 true)) = some (r1, r2, r3) := H
    have A4 := Aside0.mk A40
    clear A40
    by_cases c5 : t223 = true
    · subst c5
      have H1 : (impl_ReadBase128.j0 k l0 a1 (decide (a1 < 0))) = some (r1, r2, r3) := by rw [if_pos rfl] at H; exact H
      clear H
      have H := H1
      clear H1
      have H' := Aside0.mk H
      clear H
      go_wp2_with (first | ((with_reducible refine gate_callee (f := 35) rfl ?_); refine goesL_ (some 11) rfl rfl Try.func35 (by kernel_rfl) rfl #[.slice A0 l0.length c0] rfl (by (try simp only [List.map_toArray, List.map_cons, List.map_nil]); first | done | rfl | (simp only [List.length_drop, List.length_take]; rfl)) ?_; (with_reducible refine (impl_short.calls _ _ l0 true _ ?side1 ?side2 A4.out).mono ?_); (case side1 => repeat (first | exact (Kd.C_below HR0.out HB.out) | (with_reducible refine Kd.C_alloc ?_ _) | (with_reducible refine Kd.C_drewN ?_ _) | (with_reducible refine Kd.C_drew ?_))); (case side2 => exact HC0.out); rintro e w' ⟨rfl, ⟨nd, rfl⟩⟩; refine ⟨_, rfl, ?_⟩))
      go_meet
      case rel => exact ⟨_, (decide (a1 < 0)), (by first | rfl | (simp; done) | (simp [*]; done)), H', ⟨by first | omega | exact Nat.le_refl _⟩, ⟨by repeat (first | (with_reducible first | exact HB.out | apply below_alloc | apply pw_below_drewN | apply below_drew1) | exact HB.out)⟩⟩
    · replace c5 := Bool.eq_false_iff.mpr c5
      subst c5
      have H1 : (impl_ReadBase128.j0 k l0 a1 true) = some (r1, r2, r3) := by rw [if_neg (show ¬ (false = true) by decide)] at H; exact H
      clear H
      have H := H1
      clear H1
      have H' := Aside0.mk H
      clear H
      go_wp2_with (first | ((with_reducible refine gate_callee (f := 35) rfl ?_); refine goesL_ (some 11) rfl rfl Try.func35 (by kernel_rfl) rfl #[.slice A0 l0.length c0] rfl (by (try simp only [List.map_toArray, List.map_cons, List.map_nil]); first | done | rfl | (simp only [List.length_drop, List.length_take]; rfl)) ?_; (with_reducible refine (impl_short.calls _ _ l0 false _ ?side1 ?side2 A4.out).mono ?_); (case side1 => repeat (first | exact (Kd.C_below HR0.out HB.out) | (with_reducible refine Kd.C_alloc ?_ _) | (with_reducible refine Kd.C_drewN ?_ _) | (with_reducible refine Kd.C_drew ?_))); (case side2 => exact HC0.out); rintro e w' ⟨rfl, ⟨nd, rfl⟩⟩; refine ⟨_, rfl, ?_⟩))
      go_meet
      case rel => exact ⟨_, (true), (by first | rfl | (simp; done) | (simp [*]; done)), H', ⟨by first | omega | exact Nat.le_refl _⟩, ⟨by repeat (first | (with_reducible first | exact HB.out | apply below_alloc | apply pw_below_drewN | apply below_drew1) | exact HB.out)⟩⟩
  case rest =>
    clear HC3
    try clear c2
    try clear p2
    try clear c3
    try clear c5
    obtain ⟨kq, x16_2, rfl, HA, HJ2, HB⟩ := hcut
    cases kq with
    | zero => exact absurd HA.out (by simp [impl_ReadBase128.j0])
    | succ kj2 =>
      have H := HA.out
      clear HA
      simp only [impl_ReadBase128.j0] at H
      by_cases c6 : x16_2 = true
      · subst c6
        have H1 : (some (0, 0, false)) = some (r1, r2, r3) := by rw [if_pos rfl] at H; exact H
        clear H
        have H := H1
        clear H1
        simp only [Option.some.injEq, Prod.mk.injEq] at H
        obtain ⟨rfl, rfl, rfl⟩ := H
        go_wp2
        go_ret3
        exact ⟨by first | rfl | (simp [errW_none, errW_some] <;> rfl) | (simp [*, errW_none, errW_some] <;> rfl), by repeat (first | (with_reducible first | exact HB.out | apply below_alloc | apply pw_below_drewN | apply below_drew1) | exact HB.out)⟩
      · replace c6 := Bool.eq_false_iff.mpr c6
        subst c6
        have H1 : ((impl_copied.f l0).bind fun t224 => ((asn1_ZZBase128.f kj2 t224 a1).bind fun bt227 => (if bt227.2.2.isNone = true then (some (bt227.1, bt227.2.1, true)) else (some (0, 0, false))))) = some (r1, r2, r3) := by rw [if_neg (show ¬ (false = true) by decide)] at H; exact H
        clear H
        have H := H1
        clear H1
        replace H := Option.bind_eq_some_iff.mp H
        obtain ⟨t224, A70, H⟩ := H
        replace H : ((asn1_ZZBase128.f kj2 t224 a1).bind fun bt227 => (if bt227.2.2.isNone = true then (some (bt227.1, bt227.2.1, true)) else (some (0, 0, false)))) = some (r1, r2, r3) := H
        have A7 := Aside0.mk A70
        clear A70
        replace H := Option.bind_eq_some_iff.mp H
        obtain ⟨⟨t227, t228, t229⟩, A80, H⟩ := H
        replace H : (if t229.isNone = true then (some (t227, t228, true)) else (some (0, 0, false))) = some (r1, r2, r3) := H
        have A8 := Aside0.mk A80
        clear A80
        rcases t229 with _ | q230
        · have H1 : (some (t227, t228, true)) = some (r1, r2, r3) := by rw [if_pos (show (none : Option Int).isNone = true by rfl)] at H; exact H
          clear H
          have H := H1
          clear H1
          try simp only [errW_none, errW_some]
          simp only [Option.some.injEq, Prod.mk.injEq] at H
          obtain ⟨rfl, rfl, rfl⟩ := H
          go_wp2_with (first | ((with_reducible refine gate_callee (f := 37) rfl ?_); refine goesL_ (some 19) rfl rfl Try.func37 (by kernel_rfl) rfl #[.slice A0 l0.length c0] rfl (by (try simp only [List.map_toArray, List.map_cons, List.map_nil]); first | done | rfl | (simp only [List.length_drop, List.length_take]; rfl)) ?_; (with_reducible refine (impl_copied.calls _ _ l0 t224 _ ?side1 ?side2 A7.out).mono ?_); (case side1 => repeat (first | exact (Kd.C_below HR0.out HB.out) | (with_reducible refine Kd.C_alloc ?_ _) | (with_reducible refine Kd.C_drewN ?_ _) | (with_reducible refine Kd.C_drew ?_))); (case side2 => exact HC0.out); rintro e w9 ⟨v225, rfl, ho0, hb⟩; refine ⟨_, rfl, ?_⟩; have n0_ := Aside0.mk (Kd.R_lower ho0 (below_size (by repeat (first | (with_reducible first | exact HB.out | apply below_alloc | apply pw_below_drewN | apply below_drew1) | exact HB.out)))); have n1_ := Aside0.mk (below_step (by repeat (first | (with_reducible first | exact HB.out | apply below_alloc | apply pw_below_drewN | apply below_drew1) | exact HB.out)) hb); clear HB; have HO226 := n0_; have HB := n1_; clear n0_ n1_; (try clear hb); (try clear hb2); (try clear hk); (try clear hi); (try clear ho0); obtain ⟨Ao10, co10, eo10⟩ := Kd.R_slice HO226.out; subst eo10) | ((with_reducible refine gate_callee (f := 41) rfl ?_); refine goesL_ (some 21) rfl rfl Try.func41 (by kernel_rfl) rfl #[.slice Ao10 t224.length co10, .int .i64 a1] rfl (by (try simp only [List.map_toArray, List.map_cons, List.map_nil]); first | done | rfl | (simp only [List.length_drop, List.length_take]; rfl)) ?_; (with_reducible refine (asn1_ZZBase128.calls kj2 _ _ t224 a1 t227 t228 none _ ?side1 ?side2 A8.out).mono ?_); (case side1 => repeat (first | exact (Kd.R_reads' HO226.out).2.2 | (with_reducible refine Kd.C_alloc ?_ _) | (with_reducible refine Kd.C_drewN ?_ _) | (with_reducible refine Kd.C_drew ?_))); (case side2 => exact (Kd.R_reads' HO226.out).2.1); rintro e w' ⟨rfl, ⟨nd, rfl⟩⟩; refine ⟨_, rfl, ?_⟩; (try simp only [errW_none, errW_some])))
          go_ret3
          exact ⟨by first | rfl | (simp [errW_none, errW_some] <;> rfl) | (simp [*, errW_none, errW_some] <;> rfl), by repeat (first | (with_reducible first | exact HB.out | apply below_alloc | apply pw_below_drewN | apply below_drew1) | exact HB.out)⟩
        · have H1 : (some (0, 0, false)) = some (r1, r2, r3) := by rw [if_neg (show ¬ (some q230).isNone = true by simp)] at H; exact H
          clear H
          have H := H1
          clear H1
          try simp only [errW_none, errW_some]
          simp only [Option.some.injEq, Prod.mk.injEq] at H
          obtain ⟨rfl, rfl, rfl⟩ := H
          go_wp2_with (first | ((with_reducible refine gate_callee (f := 37) rfl ?_); refine goesL_ (some 19) rfl rfl Try.func37 (by kernel_rfl) rfl #[.slice A0 l0.length c0] rfl (by (try simp only [List.map_toArray, List.map_cons, List.map_nil]); first | done | rfl | (simp only [List.length_drop, List.length_take]; rfl)) ?_; (with_reducible refine (impl_copied.calls _ _ l0 t224 _ ?side1 ?side2 A7.out).mono ?_); (case side1 => repeat (first | exact (Kd.C_below HR0.out HB.out) | (with_reducible refine Kd.C_alloc ?_ _) | (with_reducible refine Kd.C_drewN ?_ _) | (with_reducible refine Kd.C_drew ?_))); (case side2 => exact HC0.out); rintro e w11 ⟨v225, rfl, ho0, hb⟩; refine ⟨_, rfl, ?_⟩; have n0_ := Aside0.mk (Kd.R_lower ho0 (below_size (by repeat (first | (with_reducible first | exact HB.out | apply below_alloc | apply pw_below_drewN | apply below_drew1) | exact HB.out)))); have n1_ := Aside0.mk (below_step (by repeat (first | (with_reducible first | exact HB.out | apply below_alloc | apply pw_below_drewN | apply below_drew1) | exact HB.out)) hb); clear HB; have HO226 := n0_; have HB := n1_; clear n0_ n1_; (try clear hb); (try clear hb2); (try clear hk); (try clear hi); (try clear ho0); obtain ⟨Ao12, co12, eo12⟩ := Kd.R_slice HO226.out; subst eo12) | ((with_reducible refine gate_callee (f := 41) rfl ?_); refine goesL_ (some 21) rfl rfl Try.func41 (by kernel_rfl) rfl #[.slice Ao12 t224.length co12, .int .i64 a1] rfl (by (try simp only [List.map_toArray, List.map_cons, List.map_nil]); first | done | rfl | (simp only [List.length_drop, List.length_take]; rfl)) ?_; (with_reducible refine (asn1_ZZBase128.calls kj2 _ _ t224 a1 t227 t228 (some q230) _ ?side1 ?side2 A8.out).mono ?_); (case side1 => repeat (first | exact (Kd.R_reads' HO226.out).2.2 | (with_reducible refine Kd.C_alloc ?_ _) | (with_reducible refine Kd.C_drewN ?_ _) | (with_reducible refine Kd.C_drew ?_))); (case side2 => exact (Kd.R_reads' HO226.out).2.1); rintro e w' ⟨rfl, ⟨nd, rfl⟩⟩; refine ⟨_, rfl, ?_⟩; (try simp only [errW_none, errW_some])))
          go_ret3
          exact ⟨by first | rfl | (simp [errW_none, errW_some] <;> rfl) | (simp [*, errW_none, errW_some] <;> rfl), by repeat (first | (with_reducible first | exact HB.out | apply below_alloc | apply pw_below_drewN | apply below_drew1) | exact HB.out)⟩

end Go.Proofs.Ytapnkngcnlomhaa.QA
