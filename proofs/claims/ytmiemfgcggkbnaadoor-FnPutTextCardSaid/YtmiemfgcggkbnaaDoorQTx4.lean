-- Written by a program of this work (wip/patch_print.py) for this claim.
import Derived.Test.YtmiemfgcggkbnaaDoorQTx0
import Derived.Test.YtmiemfgcggkbnaaDoorQTx2
import Derived.Test.YtmiemfgcggkbnaaDoorQTx3
namespace Go.Proofs.YtmiemfgcggkbnaaDoor.QT
open Go.RowKit Go.Proofs.YtmiemfgcggkbnaaDoorW.PrintWords Go.Proofs.YtmiemfgcggkbnaaDoorW.PrintLast Go.Proofs.YtmiemfgcggkbnaaDoorW.PrintMore
attribute [local go_sem] max2_int min2_int max_two min_two max_three min_three max_four min_four   -- for this text's walks alone
set_option linter.unusedVariables false
set_option linter.unusedSimpArgs false

/-! ### spec_Text: function 8 -/
mutual
def spec_Text.l0 : Nat → List Int → List Int → Int → Int → Option (ByteArray × Bool)
  | 0, _, _, _, _ => none
  | k + 1, x6, x22, x23, x24 => if x24 < x23 then (if 0 ≤ x24 then (if x24 < (x22.length : Int) then ((spec_put.f x6 (wrap64 (rd x22 x24))).bind fun t188 => (spec_Text.l0 k t188 x22 x23 (wrap64 (x24 + 1)))) else (none)) else (none)) else (some (strOfNums x6, true))
def spec_Text.l1 : Nat → List Int → List Int → Option (ByteArray × Bool)
  | 0, _, _ => none
  | k + 1, x1, x9 => if (x9.length : Int) > 0 then ((spec_Rune.f k x9).bind fun bt191 => (if bt191.2.2 = true then (if 0 ≤ bt191.2.1 then (if bt191.2.1 ≤ (x9.length : Int) then (spec_Text.l1 k x1 (x9.drop (bt191.2.1 : Int).toNat)) else (none)) else (none)) else (some ((⟨#[]⟩ : ByteArray), false)))) else (some (strOfNums x1, true))
def spec_Text.j2 : Nat → List Int → List Int → Int → Bool → Option (ByteArray × Bool)
  | 0, _, _, _, _ => none
  | k + 1, x1, x6, x13, x79 => if x79 = true then (if 0 ≤ (wrap64 (x13 - 2)) then (if (wrap64 (x13 - 2)) ≤ (x1.length : Int) then (spec_Text.j3 k (x1.take ((wrap64 (x13 - 2)) : Int).toNat) x6) else (none)) else (none)) else (spec_Text.j3 k x1 x6)
def spec_Text.j3 : Nat → List Int → List Int → Option (ByteArray × Bool)
  | 0, _, _ => none
  | k + 1, x1, x6 => spec_Text.l2 k x1 x6 0
def spec_Text.l2 : Nat → List Int → List Int → Int → Option (ByteArray × Bool)
  | 0, _, _, _ => none
  | k + 1, x1, x6, x14 => if x14 < (x1.length : Int) then (if 0 ≤ x14 then (if 0 ≤ (wrap64 (x14 + 1)) then (if (wrap64 (x14 + 1)) < (x1.length : Int) then (if (Go.bits .or .i64 (wrap64 ((wrap64 (rd x1 x14)) * 256)) (wrap64 (rd x1 (wrap64 (x14 + 1))))) ≥ 55296 then (if (Go.bits .or .i64 (wrap64 ((wrap64 (rd x1 x14)) * 256)) (wrap64 (rd x1 (wrap64 (x14 + 1))))) < 57344 then (some ((⟨#[]⟩ : ByteArray), false)) else (if (Go.bits .or .i64 (wrap64 ((wrap64 (rd x1 x14)) * 256)) (wrap64 (rd x1 (wrap64 (x14 + 1))))) ≥ 64976 then (if (Go.bits .or .i64 (wrap64 ((wrap64 (rd x1 x14)) * 256)) (wrap64 (rd x1 (wrap64 (x14 + 1))))) ≤ 65007 then (some ((⟨#[]⟩ : ByteArray), false)) else (if (Go.bits .or .i64 (wrap64 ((wrap64 (rd x1 x14)) * 256)) (wrap64 (rd x1 (wrap64 (x14 + 1))))) ≥ 65534 then (some ((⟨#[]⟩ : ByteArray), false)) else ((spec_put.f x6 (Go.bits .or .i64 (wrap64 ((wrap64 (rd x1 x14)) * 256)) (wrap64 (rd x1 (wrap64 (x14 + 1)))))).bind fun t208 => (spec_Text.l2 k x1 t208 (wrap64 (x14 + 2)))))) else (if (Go.bits .or .i64 (wrap64 ((wrap64 (rd x1 x14)) * 256)) (wrap64 (rd x1 (wrap64 (x14 + 1))))) ≥ 65534 then (some ((⟨#[]⟩ : ByteArray), false)) else ((spec_put.f x6 (Go.bits .or .i64 (wrap64 ((wrap64 (rd x1 x14)) * 256)) (wrap64 (rd x1 (wrap64 (x14 + 1)))))).bind fun t211 => (spec_Text.l2 k x1 t211 (wrap64 (x14 + 2))))))) else (if (Go.bits .or .i64 (wrap64 ((wrap64 (rd x1 x14)) * 256)) (wrap64 (rd x1 (wrap64 (x14 + 1))))) ≥ 64976 then (if (Go.bits .or .i64 (wrap64 ((wrap64 (rd x1 x14)) * 256)) (wrap64 (rd x1 (wrap64 (x14 + 1))))) ≤ 65007 then (some ((⟨#[]⟩ : ByteArray), false)) else (if (Go.bits .or .i64 (wrap64 ((wrap64 (rd x1 x14)) * 256)) (wrap64 (rd x1 (wrap64 (x14 + 1))))) ≥ 65534 then (some ((⟨#[]⟩ : ByteArray), false)) else ((spec_put.f x6 (Go.bits .or .i64 (wrap64 ((wrap64 (rd x1 x14)) * 256)) (wrap64 (rd x1 (wrap64 (x14 + 1)))))).bind fun t214 => (spec_Text.l2 k x1 t214 (wrap64 (x14 + 2)))))) else (if (Go.bits .or .i64 (wrap64 ((wrap64 (rd x1 x14)) * 256)) (wrap64 (rd x1 (wrap64 (x14 + 1))))) ≥ 65534 then (some ((⟨#[]⟩ : ByteArray), false)) else ((spec_put.f x6 (Go.bits .or .i64 (wrap64 ((wrap64 (rd x1 x14)) * 256)) (wrap64 (rd x1 (wrap64 (x14 + 1)))))).bind fun t217 => (spec_Text.l2 k x1 t217 (wrap64 (x14 + 2))))))) else (none)) else (none)) else (none)) else (some (strOfNums x6, true))
def spec_Text.l3 : Nat → Int → List Int → List Int → Int → Int → Option (ByteArray × Bool)
  | 0, _, _, _, _, _ => none
  | k + 1, x0, x1, x126, x127, x128 => if x128 < x127 then (if 0 ≤ x128 then (if x128 < (x126.length : Int) then ((spec_letter.f x0 (rd x126 x128)).bind fun t221 => (if t221 = true then (spec_Text.l3 k x0 x1 x126 x127 (wrap64 (x128 + 1))) else (if x0 = 1 then (if (rd x126 x128) = 42 then (spec_Text.l3 k x0 x1 x126 x127 (wrap64 (x128 + 1))) else (if ((rd x126 x128) = 38) then (spec_Text.l3 k x0 x1 x126 x127 (wrap64 (x128 + 1))) else (some ((⟨#[]⟩ : ByteArray), false)))) else (some ((⟨#[]⟩ : ByteArray), false))))) else (none)) else (none)) else (some (strOfNums x1, true))
end
def spec_Text.f (k : Nat) (a0 : Int) (l1 : List Int) : Option (ByteArray × Bool) := (some (([] : List Int) : List Int)).bind fun y184 => (if a0 = 3 then (spec_Text.l0 k y184 l1 (l1.length : Int) 0) else (if a0 = 4 then (spec_Text.l1 k l1 l1) else (if a0 = 5 then (if ((l1.length : Int) % 2) = 1 then (some ((⟨#[]⟩ : ByteArray), false)) else (if (l1.length : Int) > 0 then (if 0 ≤ (wrap64 ((l1.length : Int) - 1)) then (if (wrap64 ((l1.length : Int) - 1)) < (l1.length : Int) then (if (rd l1 (wrap64 ((l1.length : Int) - 1))) = 0 then (if 0 ≤ (wrap64 ((l1.length : Int) - 2)) then (if (wrap64 ((l1.length : Int) - 2)) < (l1.length : Int) then (spec_Text.j2 k l1 y184 (l1.length : Int) ((rd l1 (wrap64 ((l1.length : Int) - 2))) == 0)) else (none)) else (none)) else (spec_Text.j2 k l1 y184 (l1.length : Int) false)) else (none)) else (none)) else (spec_Text.j2 k l1 y184 (l1.length : Int) false))) else (spec_Text.l3 k a0 l1 l1 (l1.length : Int) 0))))
theorem spec_Text.mono_l : ∀ k, (∀ y0 y1 y2 y3, LeO (spec_Text.l0 k y0 y1 y2 y3) (spec_Text.l0 (k + 1) y0 y1 y2 y3)) ∧ (∀ y0 y1, LeO (spec_Text.l1 k y0 y1) (spec_Text.l1 (k + 1) y0 y1)) ∧ (∀ y0 y1 y2 y3, LeO (spec_Text.j2 k y0 y1 y2 y3) (spec_Text.j2 (k + 1) y0 y1 y2 y3)) ∧ (∀ y0 y1, LeO (spec_Text.j3 k y0 y1) (spec_Text.j3 (k + 1) y0 y1)) ∧ (∀ y0 y1 y2, LeO (spec_Text.l2 k y0 y1 y2) (spec_Text.l2 (k + 1) y0 y1 y2)) ∧ (∀ y0 y1 y2 y3 y4, LeO (spec_Text.l3 k y0 y1 y2 y3 y4) (spec_Text.l3 (k + 1) y0 y1 y2 y3 y4))
  | 0 => ⟨fun _ _ _ _ r h => by simp [spec_Text.l0] at h, fun _ _ r h => by simp [spec_Text.l1] at h, fun _ _ _ _ r h => by simp [spec_Text.j2] at h, fun _ _ r h => by simp [spec_Text.j3] at h, fun _ _ _ r h => by simp [spec_Text.l2] at h, fun _ _ _ _ _ r h => by simp [spec_Text.l3] at h⟩
  | k + 1 => by
    obtain ⟨ih0, ih1, ih2, ih3, ih4, ih5⟩ := spec_Text.mono_l k
    refine ⟨?_, ?_, ?_, ?_, ?_, ?_⟩
    · intro y0 y1 y2 y3
      unfold spec_Text.l0
      repeat' first
      | (with_reducible exact ih0 _ _ _ _)
      | (with_reducible exact ih1 _ _)
      | (with_reducible exact ih2 _ _ _ _)
      | (with_reducible exact ih3 _ _)
      | (with_reducible exact ih4 _ _ _)
      | (with_reducible exact ih5 _ _ _ _ _)
      | (with_reducible exact spec_Rune.mono _ _)
      | (with_reducible exact LeO.refl _)
      | (with_reducible exact LeO.none _)
      | (with_reducible refine LeO.ite ?_ ?_)
      | (with_reducible refine LeO.bind ?_ (fun _ => ?_))
      | exact ih0 _ _ _ _
      | exact ih1 _ _
      | exact ih2 _ _ _ _
      | exact ih3 _ _
      | exact ih4 _ _ _
      | exact ih5 _ _ _ _ _
      | exact spec_Rune.mono _ _
      | exact LeO.none _
      | refine LeO.ite ?_ ?_
      | refine LeO.bind ?_ (fun _ => ?_)
    · intro y0 y1
      unfold spec_Text.l1
      repeat' first
      | (with_reducible exact ih0 _ _ _ _)
      | (with_reducible exact ih1 _ _)
      | (with_reducible exact ih2 _ _ _ _)
      | (with_reducible exact ih3 _ _)
      | (with_reducible exact ih4 _ _ _)
      | (with_reducible exact ih5 _ _ _ _ _)
      | (with_reducible exact spec_Rune.mono _ _)
      | (with_reducible exact LeO.refl _)
      | (with_reducible exact LeO.none _)
      | (with_reducible refine LeO.ite ?_ ?_)
      | (with_reducible refine LeO.bind ?_ (fun _ => ?_))
      | exact ih0 _ _ _ _
      | exact ih1 _ _
      | exact ih2 _ _ _ _
      | exact ih3 _ _
      | exact ih4 _ _ _
      | exact ih5 _ _ _ _ _
      | exact spec_Rune.mono _ _
      | exact LeO.none _
      | refine LeO.ite ?_ ?_
      | refine LeO.bind ?_ (fun _ => ?_)
    · intro y0 y1 y2 y3
      unfold spec_Text.j2
      repeat' first
      | (with_reducible exact ih0 _ _ _ _)
      | (with_reducible exact ih1 _ _)
      | (with_reducible exact ih2 _ _ _ _)
      | (with_reducible exact ih3 _ _)
      | (with_reducible exact ih4 _ _ _)
      | (with_reducible exact ih5 _ _ _ _ _)
      | (with_reducible exact spec_Rune.mono _ _)
      | (with_reducible exact LeO.refl _)
      | (with_reducible exact LeO.none _)
      | (with_reducible refine LeO.ite ?_ ?_)
      | (with_reducible refine LeO.bind ?_ (fun _ => ?_))
      | exact ih0 _ _ _ _
      | exact ih1 _ _
      | exact ih2 _ _ _ _
      | exact ih3 _ _
      | exact ih4 _ _ _
      | exact ih5 _ _ _ _ _
      | exact spec_Rune.mono _ _
      | exact LeO.none _
      | refine LeO.ite ?_ ?_
      | refine LeO.bind ?_ (fun _ => ?_)
    · intro y0 y1
      unfold spec_Text.j3
      repeat' first
      | (with_reducible exact ih0 _ _ _ _)
      | (with_reducible exact ih1 _ _)
      | (with_reducible exact ih2 _ _ _ _)
      | (with_reducible exact ih3 _ _)
      | (with_reducible exact ih4 _ _ _)
      | (with_reducible exact ih5 _ _ _ _ _)
      | (with_reducible exact spec_Rune.mono _ _)
      | (with_reducible exact LeO.refl _)
      | (with_reducible exact LeO.none _)
      | (with_reducible refine LeO.ite ?_ ?_)
      | (with_reducible refine LeO.bind ?_ (fun _ => ?_))
      | exact ih0 _ _ _ _
      | exact ih1 _ _
      | exact ih2 _ _ _ _
      | exact ih3 _ _
      | exact ih4 _ _ _
      | exact ih5 _ _ _ _ _
      | exact spec_Rune.mono _ _
      | exact LeO.none _
      | refine LeO.ite ?_ ?_
      | refine LeO.bind ?_ (fun _ => ?_)
    · intro y0 y1 y2
      unfold spec_Text.l2
      repeat' first
      | (with_reducible exact ih0 _ _ _ _)
      | (with_reducible exact ih1 _ _)
      | (with_reducible exact ih2 _ _ _ _)
      | (with_reducible exact ih3 _ _)
      | (with_reducible exact ih4 _ _ _)
      | (with_reducible exact ih5 _ _ _ _ _)
      | (with_reducible exact spec_Rune.mono _ _)
      | (with_reducible exact LeO.refl _)
      | (with_reducible exact LeO.none _)
      | (with_reducible refine LeO.ite ?_ ?_)
      | (with_reducible refine LeO.bind ?_ (fun _ => ?_))
      | exact ih0 _ _ _ _
      | exact ih1 _ _
      | exact ih2 _ _ _ _
      | exact ih3 _ _
      | exact ih4 _ _ _
      | exact ih5 _ _ _ _ _
      | exact spec_Rune.mono _ _
      | exact LeO.none _
      | refine LeO.ite ?_ ?_
      | refine LeO.bind ?_ (fun _ => ?_)
    · intro y0 y1 y2 y3 y4
      unfold spec_Text.l3
      repeat' first
      | (with_reducible exact ih0 _ _ _ _)
      | (with_reducible exact ih1 _ _)
      | (with_reducible exact ih2 _ _ _ _)
      | (with_reducible exact ih3 _ _)
      | (with_reducible exact ih4 _ _ _)
      | (with_reducible exact ih5 _ _ _ _ _)
      | (with_reducible exact spec_Rune.mono _ _)
      | (with_reducible exact LeO.refl _)
      | (with_reducible exact LeO.none _)
      | (with_reducible refine LeO.ite ?_ ?_)
      | (with_reducible refine LeO.bind ?_ (fun _ => ?_))
      | exact ih0 _ _ _ _
      | exact ih1 _ _
      | exact ih2 _ _ _ _
      | exact ih3 _ _
      | exact ih4 _ _ _
      | exact ih5 _ _ _ _ _
      | exact spec_Rune.mono _ _
      | exact LeO.none _
      | refine LeO.ite ?_ ?_
      | refine LeO.bind ?_ (fun _ => ?_)
theorem spec_Text.mono : ∀ a0 a1 k, LeO (spec_Text.f k a0 a1) (spec_Text.f (k + 1) a0 a1) := by
  intro a0 a1 k
  obtain ⟨ih0, ih1, ih2, ih3, ih4, ih5⟩ := spec_Text.mono_l k
  unfold spec_Text.f
  repeat' first
      | (with_reducible exact ih0 _ _ _ _)
      | (with_reducible exact ih1 _ _)
      | (with_reducible exact ih2 _ _ _ _)
      | (with_reducible exact ih3 _ _)
      | (with_reducible exact ih4 _ _ _)
      | (with_reducible exact ih5 _ _ _ _ _)
      | (with_reducible exact spec_Rune.mono _ _)
      | (with_reducible exact LeO.refl _)
      | (with_reducible exact LeO.none _)
      | (with_reducible refine LeO.ite ?_ ?_)
      | (with_reducible refine LeO.bind ?_ (fun _ => ?_))
      | exact ih0 _ _ _ _
      | exact ih1 _ _
      | exact ih2 _ _ _ _
      | exact ih3 _ _
      | exact ih4 _ _ _
      | exact ih5 _ _ _ _ _
      | exact spec_Rune.mono _ _
      | exact LeO.none _
      | refine LeO.ite ?_ ?_
      | refine LeO.bind ?_ (fun _ => ?_)
set_option maxHeartbeats 8000000 in
set_option maxRecDepth 100000 in
theorem spec_Text.calls (k : Nat) (a0 : Int) (P1_ : Nat → Prop) (A1 : Option Addr) (c1 : Nat) (l1 : List Int) (r1 : ByteArray) (r2 : Bool) (w : World) (hs1 : Kd.V (Kd.int .u8) 5 w w.heap.size (fun k_ => P1_ k_) (.slice A1 l1.length c1) l1) (h : spec_Text.f k a0 l1 = some (r1, r2)) :
    Calls Tryd.prog 8 #[.int .i64 a0, .slice A1 l1.length c1] w fun e w' => e = .returned (.tuple #[.string r1, .bool r2]) ∧ Below w.heap.size w w' := by
  have HO1 := Aside0.mk (show Kd.V (Kd.int .u8) 5 w w.heap.size (fun k_ => (P1_ k_ ∨ w.heap.size ≤ k_)) (.slice A1 l1.length c1) l1 from Kd.V_mono hs1 (fun k_ hk => .inl hk))
  have HB := Aside0.mk (Below.refl w.heap.size w)
  have H : ((some (([] : List Int) : List Int)).bind fun y184 => (if a0 = 3 then (spec_Text.l0 k y184 l1 (l1.length : Int) 0) else (if a0 = 4 then (spec_Text.l1 k l1 l1) else (if a0 = 5 then (if ((l1.length : Int) % 2) = 1 then (some ((⟨#[]⟩ : ByteArray), false)) else (if (l1.length : Int) > 0 then (if 0 ≤ (wrap64 ((l1.length : Int) - 1)) then (if (wrap64 ((l1.length : Int) - 1)) < (l1.length : Int) then (if (rd l1 (wrap64 ((l1.length : Int) - 1))) = 0 then (if 0 ≤ (wrap64 ((l1.length : Int) - 2)) then (if (wrap64 ((l1.length : Int) - 2)) < (l1.length : Int) then (spec_Text.j2 k l1 y184 (l1.length : Int) ((rd l1 (wrap64 ((l1.length : Int) - 2))) == 0)) else (none)) else (none)) else (spec_Text.j2 k l1 y184 (l1.length : Int) false)) else (none)) else (none)) else (spec_Text.j2 k l1 y184 (l1.length : Int) false))) else (spec_Text.l3 k a0 l1 l1 (l1.length : Int) 0))))) = some (r1, r2) := h
  clear h
  obtain ⟨y184, hy184⟩ : ∃ y_ : List Int, y_ = (([] : List Int)) := ⟨_, rfl⟩
  replace H : (if a0 = 3 then (spec_Text.l0 k y184 l1 (l1.length : Int) 0) else (if a0 = 4 then (spec_Text.l1 k l1 l1) else (if a0 = 5 then (if ((l1.length : Int) % 2) = 1 then (some ((⟨#[]⟩ : ByteArray), false)) else (if (l1.length : Int) > 0 then (if 0 ≤ (wrap64 ((l1.length : Int) - 1)) then (if (wrap64 ((l1.length : Int) - 1)) < (l1.length : Int) then (if (rd l1 (wrap64 ((l1.length : Int) - 1))) = 0 then (if 0 ≤ (wrap64 ((l1.length : Int) - 2)) then (if (wrap64 ((l1.length : Int) - 2)) < (l1.length : Int) then (spec_Text.j2 k l1 y184 (l1.length : Int) ((rd l1 (wrap64 ((l1.length : Int) - 2))) == 0)) else (none)) else (none)) else (spec_Text.j2 k l1 y184 (l1.length : Int) false)) else (none)) else (none)) else (spec_Text.j2 k l1 y184 (l1.length : Int) false))) else (spec_Text.l3 k a0 l1 l1 (l1.length : Int) 0)))) = some (r1, r2) := by first | (rw [hy184]; with_reducible exact H) | (have H2_ := (Option.bind_some _ _).symm.trans H; rw [hy184]; with_reducible exact H2_) | (have H2_ := (Option.bind_some _ _).symm.trans H; with_reducible exact H2_) | with_reducible exact H | (rw [hy184]; exact H) | exact H
  have Ny184 := Aside0.mk hy184
  clear hy184
  by_cases c3 : a0 = 3
  · rw [if_pos c3] at H
    have c3b0 : (a0 == 3) = true := beq_iff_eq.mpr c3
    have c3b1 : (a0 != 3) = false := bne_eq_false_iff_eq.mpr c3
    clear c3
    have H' := Aside0.mk H
    clear H
    go_enter Tryd.func8, Tryd.ntmps8
    go_wp2_with (first | ((with_reducible refine gate_dst (N := 18) rfl ?_); refine Kd.R_lit (Kd.int .u8) _ 5 ?hg (N := 18) ?hd (xs := ([] : List Int)) (inner := []) (ok := fun _ => True) (okp := fun _ => True) ?hr ?hp (fun _ hk => hk) trivial (Below.refl _ _) (Nat.le_refl _) (by simp) ?_; (case hd => rfl); (case hg => rfl); (case hr => first | (go_simp; done) | (go_simp; rfl)); (case hp => exact (Reps.none _ _)); intro v185 w4 ho5 hb hg_ hnew_; clear hg_ hnew_; (first | rw [← Ny184.out] at ho5 | (simp only [Int.reduceToNat] at ho5; rw [← Ny184.out] at ho5)); have n0_ := Aside0.mk (Kd.V_elder' (by (with_reducible repeat (first | apply Kd.V_alloc | apply Kd.V_drewN | apply Kd.V_drew)); exact HO1.out) (Kd.R_base ho5) hb); have n1_ := Aside0.mk (Kd.R_lower (Kd.R_newM (M := fun k_ => (w.heap.size ≤ k_)) ho5 (below_size (by repeat (first | (with_reducible first | exact HB.out | apply below_alloc | apply pw_below_drewN | apply below_drew1) | exact HB.out))) (fun k_ h_ => h_)) (below_size (by repeat (first | (with_reducible first | exact HB.out | apply below_alloc | apply pw_below_drewN | apply below_drew1) | exact HB.out)))); have n2_ := Aside0.mk (below_step (by repeat (first | (with_reducible first | exact HB.out | apply below_alloc | apply pw_below_drewN | apply below_drew1) | exact HB.out)) hb); clear HO1; clear HB; have HO1 := n0_; have HO186 := n1_; have HB := n2_; clear n0_ n1_ n2_; clear hb ho5))
    repeat (go_quiet (first | ((with_reducible refine gate_dst (N := 18) rfl ?_); refine Kd.R_lit (Kd.int .u8) _ 5 ?hg (N := 18) ?hd (xs := ([] : List Int)) (inner := []) (ok := fun _ => True) (okp := fun _ => True) ?hr ?hp (fun _ hk => hk) trivial (Below.refl _ _) (Nat.le_refl _) (by simp) ?_; (case hd => rfl); (case hg => rfl); (case hr => first | (go_simp; done) | (go_simp; rfl)); (case hp => exact (Reps.none _ _)); intro v185 w4 ho5 hb hg_ hnew_; clear hg_ hnew_; (first | rw [← Ny184.out] at ho5 | (simp only [Int.reduceToNat] at ho5; rw [← Ny184.out] at ho5)); have n0_ := Aside0.mk (Kd.V_elder' (by (with_reducible repeat (first | apply Kd.V_alloc | apply Kd.V_drewN | apply Kd.V_drew)); exact HO1.out) (Kd.R_base ho5) hb); have n1_ := Aside0.mk (Kd.R_lower (Kd.R_newM (M := fun k_ => (w.heap.size ≤ k_)) ho5 (below_size (by repeat (first | (with_reducible first | exact HB.out | apply below_alloc | apply pw_below_drewN | apply below_drew1) | exact HB.out))) (fun k_ h_ => h_)) (below_size (by repeat (first | (with_reducible first | exact HB.out | apply below_alloc | apply pw_below_drewN | apply below_drew1) | exact HB.out)))); have n2_ := Aside0.mk (below_step (by repeat (first | (with_reducible first | exact HB.out | apply below_alloc | apply pw_below_drewN | apply below_drew1) | exact HB.out)) hb); clear HO1; clear HB; have HO1 := n0_; have HO186 := n1_; have HB := n2_; clear n0_ n1_ n2_; clear hb ho5)); try go_wp2_with (first | ((with_reducible refine gate_dst (N := 18) rfl ?_); refine Kd.R_lit (Kd.int .u8) _ 5 ?hg (N := 18) ?hd (xs := ([] : List Int)) (inner := []) (ok := fun _ => True) (okp := fun _ => True) ?hr ?hp (fun _ hk => hk) trivial (Below.refl _ _) (Nat.le_refl _) (by simp) ?_; (case hd => rfl); (case hg => rfl); (case hr => first | (go_simp; done) | (go_simp; rfl)); (case hp => exact (Reps.none _ _)); intro v185 w4 ho5 hb hg_ hnew_; clear hg_ hnew_; (first | rw [← Ny184.out] at ho5 | (simp only [Int.reduceToNat] at ho5; rw [← Ny184.out] at ho5)); have n0_ := Aside0.mk (Kd.V_elder' (by (with_reducible repeat (first | apply Kd.V_alloc | apply Kd.V_drewN | apply Kd.V_drew)); exact HO1.out) (Kd.R_base ho5) hb); have n1_ := Aside0.mk (Kd.R_lower (Kd.R_newM (M := fun k_ => (w.heap.size ≤ k_)) ho5 (below_size (by repeat (first | (with_reducible first | exact HB.out | apply below_alloc | apply pw_below_drewN | apply below_drew1) | exact HB.out))) (fun k_ h_ => h_)) (below_size (by repeat (first | (with_reducible first | exact HB.out | apply below_alloc | apply pw_below_drewN | apply below_drew1) | exact HB.out)))); have n2_ := Aside0.mk (below_step (by repeat (first | (with_reducible first | exact HB.out | apply below_alloc | apply pw_below_drewN | apply below_drew1) | exact HB.out)) hb); clear HO1; clear HB; have HO1 := n0_; have HO186 := n1_; have HB := n2_; clear n0_ n1_ n2_; clear hb ho5)))
    go_loopg [6, 24] k (fun kq v6 v24 w' => ∃ (x6_1 : List Int) (x24_1 : Int), v24 = .int .i64 x24_1 ∧ Aside0 (spec_Text.l0 kq x6_1 l1 (l1.length : Int) x24_1 = some (r1, r2)) ∧ Aside0 (kq ≤ k) ∧ Aside0 (Kd.R (Kd.int .u8) 5 w' w.heap.size (fun k_ => (w.heap.size ≤ k_)) v6 x6_1) ∧ Aside0 (Kd.V (Kd.int .u8) 5 w' w.heap.size (fun k_ => (P1_ k_ ∨ w.heap.size ≤ k_) ∧ some k_ ≠ (v6 : Value).ownBlock) (.slice A1 l1.length c1) l1) ∧ Aside0 (Below w.heap.size w w'))
    case atStart => exact ⟨(y184), (0), (by first | rfl | (simp; done) | (simp [*]; done)), H', ⟨Nat.le_refl _⟩, ⟨by (with_reducible repeat (first | apply Kd.R_alloc | apply Kd.R_drewN | apply Kd.R_drew)); exact Kd.R_mono HO186.out (fun _ hk => hk.1)⟩, ⟨by (with_reducible repeat (first | apply Kd.V_alloc | apply Kd.V_drewN | apply Kd.V_drew)); exact HO1.out⟩, ⟨by repeat (first | (with_reducible first | exact HB.out | apply below_alloc | apply pw_below_drewN | apply below_drew1) | exact HB.out)⟩⟩
    case round =>
      clear H'
      try clear c1
      try clear p2
      try clear c3
      try clear c3b0
      try clear c3b1
      obtain ⟨x6_1, x24_1, rfl, HA, HK1, HO_6, HO_22, HB⟩ := hrel
      cases gk with
      | zero => exact absurd HA.out (by simp [spec_Text.l0])
      | succ k1 =>
        have H := HA.out
        clear HA
        simp only [spec_Text.l0] at H
        by_cases c6 : x24_1 < (l1.length : Int)
        · rw [if_pos c6] at H
          have c6b0 : decide (x24_1 < (l1.length : Int)) = true := decide_eq_true c6
          clear c6
          by_cases c7 : 0 ≤ x24_1
          · rw [if_pos c7] at H
            have c7b0 : decide (0 ≤ x24_1) = true := decide_eq_true c7
            clear c7
            by_cases c8 : x24_1 < (l1.length : Int)
            · rw [if_pos c8] at H
              have c8b0 : decide (x24_1 < (l1.length : Int)) = true := decide_eq_true c8
              clear c8
              replace H := Option.bind_eq_some_iff.mp H
              obtain ⟨t188, A90, H⟩ := H
              replace H : (spec_Text.l0 k1 t188 l1 (l1.length : Int) (wrap64 (x24_1 + 1))) = some (r1, r2) := H
              have A9 := Aside0.mk A90
              clear A90
              have H' := Aside0.mk H
              clear H
              have p187 : 0 ≤ (x24_1 : Int) := of_decide_eq_true (by first | (with_reducible assumption) | assumption)
              have q187 : x24_1 < (l1.length : Int) := of_decide_eq_true (by first | (with_reducible assumption) | assumption)
              obtain ⟨ad187, e187, hx187_0⟩ := Kd.at_int (Kd.V_reads' HO_22.out).2.2 x24_1 p187 q187
              cases e187
              replace p187 := eq_true p187
              replace q187 := eq_true q187
              obtain ⟨Ao10, co10, eo10⟩ := Kd.R_slice HO_6.out
              subst eo10
              go_wp2_with (first | (go_at_call 14; (with_reducible refine (spec_put.calls (fun k_ => some k_ = (.slice Ao10 x6_1.length co10 : Value).ownBlock) (.slice Ao10 x6_1.length co10) x6_1 (wrap64 (rd l1 x24_1)) t188 w _ ?side1 ?side2 A9.out).mono ?_); (case side1 => repeat (first | (with_reducible first | exact HB.out | apply below_alloc | apply pw_below_drewN | apply below_drew1) | exact HB.out)); (case side2 => exact Kd.R_tight rfl HO_6.out); rintro e w11 ⟨v189, rfl, ho0, hb, hkp⟩; have n0_ := Aside0.mk (Kd.V_mono (ok' := fun k_ => (P1_ k_ ∨ w.heap.size ≤ k_) ∧ some k_ ≠ (v189 : Value).ownBlock) (Kd.V_keptB (HO_22.out) hkp (fun k_ hk_ hs_ => (hk_.2) hs_)) (fun k_ hk_ => ⟨hk_.1.1, fun e_ => Or.elim (ho0.1 k_ e_.symm) (fun hs_ => hk_.2.1 hs_) (fun hn_ => Nat.not_le.2 hk_.2.2 hn_)⟩)); have n1_ := Aside0.mk (Kd.R_mono (ok' := fun k_ => (w.heap.size ≤ k_)) ho0 (fun k_ hk_ => Or.elim hk_ (fun hs_ => (HO_6.out.1 k_ (hs_).symm)) (fun hn_ => (Nat.le_trans (below_size (by repeat (first | (with_reducible first | exact HB.out | apply below_alloc | apply pw_below_drewN | apply below_drew1) | exact HB.out))) hn_)))); have n2_ := Aside0.mk (hb); clear HO_22; clear HB; clear HO_6; have HO_22 := n0_; have HO190 := n1_; have HB := n2_; clear n0_ n1_ n2_; (try clear hb); (try clear hkp); (try clear ho0)))
              repeat (go_quiet (first | (go_at_call 14; (with_reducible refine (spec_put.calls (fun k_ => some k_ = (.slice Ao10 x6_1.length co10 : Value).ownBlock) (.slice Ao10 x6_1.length co10) x6_1 (wrap64 (rd l1 x24_1)) t188 w _ ?side1 ?side2 A9.out).mono ?_); (case side1 => repeat (first | (with_reducible first | exact HB.out | apply below_alloc | apply pw_below_drewN | apply below_drew1) | exact HB.out)); (case side2 => exact Kd.R_tight rfl HO_6.out); rintro e w11 ⟨v189, rfl, ho0, hb, hkp⟩; have n0_ := Aside0.mk (Kd.V_mono (ok' := fun k_ => (P1_ k_ ∨ w.heap.size ≤ k_) ∧ some k_ ≠ (v189 : Value).ownBlock) (Kd.V_keptB (HO_22.out) hkp (fun k_ hk_ hs_ => (hk_.2) hs_)) (fun k_ hk_ => ⟨hk_.1.1, fun e_ => Or.elim (ho0.1 k_ e_.symm) (fun hs_ => hk_.2.1 hs_) (fun hn_ => Nat.not_le.2 hk_.2.2 hn_)⟩)); have n1_ := Aside0.mk (Kd.R_mono (ok' := fun k_ => (w.heap.size ≤ k_)) ho0 (fun k_ hk_ => Or.elim hk_ (fun hs_ => (HO_6.out.1 k_ (hs_).symm)) (fun hn_ => (Nat.le_trans (below_size (by repeat (first | (with_reducible first | exact HB.out | apply below_alloc | apply pw_below_drewN | apply below_drew1) | exact HB.out))) hn_)))); have n2_ := Aside0.mk (hb); clear HO_22; clear HB; clear HO_6; have HO_22 := n0_; have HO190 := n1_; have HB := n2_; clear n0_ n1_ n2_; (try clear hb); (try clear hkp); (try clear ho0))); try go_wp2_with (first | (go_at_call 14; (with_reducible refine (spec_put.calls (fun k_ => some k_ = (.slice Ao10 x6_1.length co10 : Value).ownBlock) (.slice Ao10 x6_1.length co10) x6_1 (wrap64 (rd l1 x24_1)) t188 w _ ?side1 ?side2 A9.out).mono ?_); (case side1 => repeat (first | (with_reducible first | exact HB.out | apply below_alloc | apply pw_below_drewN | apply below_drew1) | exact HB.out)); (case side2 => exact Kd.R_tight rfl HO_6.out); rintro e w11 ⟨v189, rfl, ho0, hb, hkp⟩; have n0_ := Aside0.mk (Kd.V_mono (ok' := fun k_ => (P1_ k_ ∨ w.heap.size ≤ k_) ∧ some k_ ≠ (v189 : Value).ownBlock) (Kd.V_keptB (HO_22.out) hkp (fun k_ hk_ hs_ => (hk_.2) hs_)) (fun k_ hk_ => ⟨hk_.1.1, fun e_ => Or.elim (ho0.1 k_ e_.symm) (fun hs_ => hk_.2.1 hs_) (fun hn_ => Nat.not_le.2 hk_.2.2 hn_)⟩)); have n1_ := Aside0.mk (Kd.R_mono (ok' := fun k_ => (w.heap.size ≤ k_)) ho0 (fun k_ hk_ => Or.elim hk_ (fun hs_ => (HO_6.out.1 k_ (hs_).symm)) (fun hn_ => (Nat.le_trans (below_size (by repeat (first | (with_reducible first | exact HB.out | apply below_alloc | apply pw_below_drewN | apply below_drew1) | exact HB.out))) hn_)))); have n2_ := Aside0.mk (hb); clear HO_22; clear HB; clear HO_6; have HO_22 := n0_; have HO190 := n1_; have HB := n2_; clear n0_ n1_ n2_; (try clear hb); (try clear hkp); (try clear ho0))))
              go_roundg k1
              case measure => have := HK1.out; omega
              case rel => exact ⟨(t188), (wrap64 (x24_1 + 1)), (by first | rfl | (simp; done) | (simp [*]; done)), H', ⟨by have := HK1.out; omega⟩, ⟨by (with_reducible repeat (first | apply Kd.R_alloc | apply Kd.R_drewN | apply Kd.R_drew)); exact HO190.out⟩, ⟨by (with_reducible repeat (first | apply Kd.V_alloc | apply Kd.V_drewN | apply Kd.V_drew)); exact HO_22.out⟩, ⟨by repeat (first | (with_reducible first | exact HB.out | apply below_alloc | apply pw_below_drewN | apply below_drew1) | exact HB.out)⟩⟩
            · rw [if_neg c8] at H
              exact absurd H (by simp)
          · rw [if_neg c7] at H
            exact absurd H (by simp)
        · rw [if_neg c6] at H
          have c6b0 : decide (x24_1 < (l1.length : Int)) = false := decide_eq_false c6
          clear c6
          simp only [Option.some.injEq, Prod.mk.injEq] at H
          obtain ⟨rfl, rfl⟩ := H
          have hcv12 := own_string (P := Tryd.prog) Tryd.underlying24 Tryd.underlying5 Tryd.underlying9 (Kd.own_of_R HO_6.out)
          go_wp2
          repeat (go_quiet (fail); try go_wp2)
          go_ret2
          exact ⟨by first | rfl | (simp [errW_none, errW_some] <;> rfl) | (simp [*, errW_none, errW_some] <;> rfl), by repeat (first | (with_reducible first | exact HB.out | apply below_alloc | apply pw_below_drewN | apply below_drew1) | exact HB.out)⟩
  · rw [if_neg c3] at H
    have c3b0 : (a0 == 3) = false := beq_eq_false_iff_ne.mpr c3
    have c3b1 : (a0 != 3) = true := bne_iff_ne.mpr c3
    by_cases c13 : a0 = 4
    · rw [if_pos c13] at H
      have c13b0 : (a0 == 4) = true := beq_iff_eq.mpr c13
      have c13b1 : (a0 != 4) = false := bne_eq_false_iff_eq.mpr c13
      clear c13
      have H' := Aside0.mk H
      clear H
      go_enter Tryd.func8, Tryd.ntmps8
      go_wp2_with (first | ((with_reducible refine gate_dst (N := 18) rfl ?_); refine Kd.R_lit (Kd.int .u8) _ 5 ?hg (N := 18) ?hd (xs := ([] : List Int)) (inner := []) (ok := fun _ => True) (okp := fun _ => True) ?hr ?hp (fun _ hk => hk) trivial (Below.refl _ _) (Nat.le_refl _) (by simp) ?_; (case hd => rfl); (case hg => rfl); (case hr => first | (go_simp; done) | (go_simp; rfl)); (case hp => exact (Reps.none _ _)); intro v185 w14 ho15 hb hg_ hnew_; clear hg_ hnew_; (first | rw [← Ny184.out] at ho15 | (simp only [Int.reduceToNat] at ho15; rw [← Ny184.out] at ho15)); have n0_ := Aside0.mk (Kd.V_elder' (by (with_reducible repeat (first | apply Kd.V_alloc | apply Kd.V_drewN | apply Kd.V_drew)); exact HO1.out) (Kd.R_base ho15) hb); have n1_ := Aside0.mk (Kd.R_lower (Kd.R_newM (M := fun k_ => (w.heap.size ≤ k_)) ho15 (below_size (by repeat (first | (with_reducible first | exact HB.out | apply below_alloc | apply pw_below_drewN | apply below_drew1) | exact HB.out))) (fun k_ h_ => h_)) (below_size (by repeat (first | (with_reducible first | exact HB.out | apply below_alloc | apply pw_below_drewN | apply below_drew1) | exact HB.out)))); have n2_ := Aside0.mk (below_step (by repeat (first | (with_reducible first | exact HB.out | apply below_alloc | apply pw_below_drewN | apply below_drew1) | exact HB.out)) hb); clear HO1; clear HB; have HO1 := n0_; have HO186 := n1_; have HB := n2_; clear n0_ n1_ n2_; clear hb ho15))
      repeat (go_quiet (first | ((with_reducible refine gate_dst (N := 18) rfl ?_); refine Kd.R_lit (Kd.int .u8) _ 5 ?hg (N := 18) ?hd (xs := ([] : List Int)) (inner := []) (ok := fun _ => True) (okp := fun _ => True) ?hr ?hp (fun _ hk => hk) trivial (Below.refl _ _) (Nat.le_refl _) (by simp) ?_; (case hd => rfl); (case hg => rfl); (case hr => first | (go_simp; done) | (go_simp; rfl)); (case hp => exact (Reps.none _ _)); intro v185 w14 ho15 hb hg_ hnew_; clear hg_ hnew_; (first | rw [← Ny184.out] at ho15 | (simp only [Int.reduceToNat] at ho15; rw [← Ny184.out] at ho15)); have n0_ := Aside0.mk (Kd.V_elder' (by (with_reducible repeat (first | apply Kd.V_alloc | apply Kd.V_drewN | apply Kd.V_drew)); exact HO1.out) (Kd.R_base ho15) hb); have n1_ := Aside0.mk (Kd.R_lower (Kd.R_newM (M := fun k_ => (w.heap.size ≤ k_)) ho15 (below_size (by repeat (first | (with_reducible first | exact HB.out | apply below_alloc | apply pw_below_drewN | apply below_drew1) | exact HB.out))) (fun k_ h_ => h_)) (below_size (by repeat (first | (with_reducible first | exact HB.out | apply below_alloc | apply pw_below_drewN | apply below_drew1) | exact HB.out)))); have n2_ := Aside0.mk (below_step (by repeat (first | (with_reducible first | exact HB.out | apply below_alloc | apply pw_below_drewN | apply below_drew1) | exact HB.out)) hb); clear HO1; clear HB; have HO1 := n0_; have HO186 := n1_; have HB := n2_; clear n0_ n1_ n2_; clear hb ho15)); try go_wp2_with (first | ((with_reducible refine gate_dst (N := 18) rfl ?_); refine Kd.R_lit (Kd.int .u8) _ 5 ?hg (N := 18) ?hd (xs := ([] : List Int)) (inner := []) (ok := fun _ => True) (okp := fun _ => True) ?hr ?hp (fun _ hk => hk) trivial (Below.refl _ _) (Nat.le_refl _) (by simp) ?_; (case hd => rfl); (case hg => rfl); (case hr => first | (go_simp; done) | (go_simp; rfl)); (case hp => exact (Reps.none _ _)); intro v185 w14 ho15 hb hg_ hnew_; clear hg_ hnew_; (first | rw [← Ny184.out] at ho15 | (simp only [Int.reduceToNat] at ho15; rw [← Ny184.out] at ho15)); have n0_ := Aside0.mk (Kd.V_elder' (by (with_reducible repeat (first | apply Kd.V_alloc | apply Kd.V_drewN | apply Kd.V_drew)); exact HO1.out) (Kd.R_base ho15) hb); have n1_ := Aside0.mk (Kd.R_lower (Kd.R_newM (M := fun k_ => (w.heap.size ≤ k_)) ho15 (below_size (by repeat (first | (with_reducible first | exact HB.out | apply below_alloc | apply pw_below_drewN | apply below_drew1) | exact HB.out))) (fun k_ h_ => h_)) (below_size (by repeat (first | (with_reducible first | exact HB.out | apply below_alloc | apply pw_below_drewN | apply below_drew1) | exact HB.out)))); have n2_ := Aside0.mk (below_step (by repeat (first | (with_reducible first | exact HB.out | apply below_alloc | apply pw_below_drewN | apply below_drew1) | exact HB.out)) hb); clear HO1; clear HB; have HO1 := n0_; have HO186 := n1_; have HB := n2_; clear n0_ n1_ n2_; clear hb ho15)))
      go_loopg [9] k (fun kq v9 w' => ∃ (x9_1 : List Int), Aside0 (spec_Text.l1 kq l1 x9_1 = some (r1, r2)) ∧ Aside0 (kq ≤ k) ∧ Aside0 (Kd.V (Kd.int .u8) 5 w' w.heap.size (fun k_ => (P1_ k_ ∨ w.heap.size ≤ k_)) (.slice A1 l1.length c1) l1) ∧ Aside0 (Kd.V (Kd.int .u8) 5 w' w.heap.size (fun k_ => (P1_ k_ ∨ w.heap.size ≤ k_)) v9 x9_1) ∧ Aside0 (Below w.heap.size w w'))
      case atStart => exact ⟨(l1), H', ⟨Nat.le_refl _⟩, ⟨by (with_reducible repeat (first | apply Kd.V_alloc | apply Kd.V_drewN | apply Kd.V_drew)); exact Kd.V_mono HO1.out (fun _ hk => hk.1)⟩, ⟨by (with_reducible repeat (first | apply Kd.V_alloc | apply Kd.V_drewN | apply Kd.V_drew)); exact Kd.V_mono HO1.out (fun _ hk => hk.1)⟩, ⟨by repeat (first | (with_reducible first | exact HB.out | apply below_alloc | apply pw_below_drewN | apply below_drew1) | exact HB.out)⟩⟩
      case round =>
        clear H'
        try clear c1
        try clear p1
        try clear q1
        try clear hx1
        try clear hcv1
        try clear p2
        try clear c3
        try clear c3b0
        try clear c3b1
        try clear c6
        try clear c6b0
        try clear p6
        try clear c7
        try clear c7b0
        try clear c8
        try clear c8b0
        try clear hcv12
        try clear c13
        try clear c13b0
        try clear c13b1
        try clear hx187_0
        try clear p187
        try clear p2
        try clear q187
        obtain ⟨x9_1, HA, HK1, HO_1, HO_9, HB⟩ := hrel
        cases gk with
        | zero => exact absurd HA.out (by simp [spec_Text.l1])
        | succ k1 =>
          have H := HA.out
          clear HA
          simp only [spec_Text.l1] at H
          by_cases c16 : (x9_1.length : Int) > 0
          · rw [if_pos c16] at H
            have c16b0 : decide (0 < (x9_1.length : Int)) = true := decide_eq_true c16
            have c16b1 : decide (0 < x9_1.length) = true := decide_eq_true (by omega)
            clear c16
            replace H := Option.bind_eq_some_iff.mp H
            obtain ⟨⟨t191, t192, t193⟩, A170, H⟩ := H
            replace H : (if t193 = true then (if 0 ≤ t192 then (if t192 ≤ (x9_1.length : Int) then (spec_Text.l1 k1 l1 (x9_1.drop (t192 : Int).toNat)) else (none)) else (none)) else (some ((⟨#[]⟩ : ByteArray), false))) = some (r1, r2) := H
            have A17 := Aside0.mk A170
            clear A170
            by_cases c18 : t193 = true
            · subst c18
              have H1 : (if 0 ≤ t192 then (if t192 ≤ (x9_1.length : Int) then (spec_Text.l1 k1 l1 (x9_1.drop (t192 : Int).toNat)) else (none)) else (none)) = some (r1, r2) := by rw [if_pos rfl] at H; exact H
              clear H
              have H := H1
              clear H1
              by_cases c19 : 0 ≤ t192
              · rw [if_pos c19] at H
                have c19b0 := eq_true c19
                have c19b1 : decide (0 ≤ t192) = true := decide_eq_true c19
                clear c19
                by_cases c20 : t192 ≤ (x9_1.length : Int)
                · rw [if_pos c20] at H
                  have c20b0 := eq_true c20
                  have c20b1 : decide (t192 ≤ (x9_1.length : Int)) = true := decide_eq_true c20
                  clear c20
                  obtain ⟨y194, hy194⟩ : ∃ y_ : List Int, y_ = (x9_1.drop (t192 : Int).toNat) := ⟨_, rfl⟩
                  replace H : (spec_Text.l1 k1 l1 y194) = some (r1, r2) := by first | (rw [hy194]; with_reducible exact H) | (have H2_ := (Option.bind_some _ _).symm.trans H; rw [hy194]; with_reducible exact H2_) | (have H2_ := (Option.bind_some _ _).symm.trans H; with_reducible exact H2_) | with_reducible exact H | (rw [hy194]; exact H) | exact H
                  have Ny194 := Aside0.mk hy194
                  clear hy194
                  have H' := Aside0.mk H
                  clear H
                  obtain ⟨Ao21, co21, eo21⟩ := Kd.V_slice HO_9.out
                  subst eo21
                  go_wp2_with (first | (go_at_call 15; (with_reducible refine (spec_Rune.calls k1 _ _ x9_1 t191 t192 true _ ?side1 ?side2 A17.out).mono ?_); (case side1 => repeat (first | exact (Kd.V_reads' HO_9.out).2.2 | (with_reducible refine Kd.C_alloc ?_ _) | (with_reducible refine Kd.C_drewN ?_ _) | (with_reducible refine Kd.C_drew ?_))); (case side2 => exact (Kd.V_reads' HO_9.out).2.1); rintro e w' ⟨rfl, ⟨nd, rfl⟩⟩; (try first | exact ⟨rfl, _, World.drewN_drewN _ _ _⟩ | exact ⟨rfl, _, Eq.trans (World.drewN_drewN _ _ _) (congrArg (World.drewN _) (Nat.add_assoc _ _ _))⟩); have q22 : (t192 : Int) ≤ ((x9_1.length : Int) : Int) := of_decide_eq_true (by first | (with_reducible assumption) | assumption); obtain ⟨i022, hi022, _, hsz22, _⟩ := info_parts info5; have hroom22 : x9_1.length ≤ co21 := (Kd.V_reads' HO_9.out).2.1; have hC22 : Kd.F (Kd.int .u8) _ _ Ao21 x9_1.length x9_1 := (Kd.V_at (base := w.heap.size) HO_9.out).2.2; have q022 : (0 : Int) ≤ (t192 : Int) := of_decide_eq_true (by first | (with_reducible assumption) | assumption); have hcut22 := cut_from (P := Tryd.prog) 24 5 .i64 Tryd.underlying24 hi022 1 hsz22 Ao21 x9_1.length co21 t192 q022 q22; have hr22 := Kd.F_cut (m := (t192 : Int).toNat) (c := co21) hC22 (by omega) hroom22; obtain ⟨A22, hA22⟩ : ∃ A1, A1 = (if co21 = (t192 : Int).toNat then Ao21 else (Ao21 : Option Addr).map (·.add ((t192 : Int).toNat * 1))) := ⟨_, rfl⟩; obtain ⟨c22, hc22⟩ : ∃ c1, c1 = co21 - (t192 : Int).toNat := ⟨_, rfl⟩; have hy22 : y194.length = x9_1.length - (t192 : Int).toNat := (by rw [Ny194.out, List.length_drop] <;> omega); rw [show (x9_1).drop (t192 : Int).toNat = y194 from Ny194.out.symm] at hr22; replace hr22 : Kd.F (Kd.int .u8) _ _ A22 y194.length y194 := (by rw [hA22]; exact hr22); rw [← hy22, ← hA22, ← hc22] at hcut22; have HO198 := Aside0.mk (show Kd.V (Kd.int .u8) 5 _ w.heap.size _ (.slice A22 y194.length c22) y194 from Kd.V_mk (by rw [hy22, hc22]; exact Nat.sub_le_sub_right hroom22 _) hr22); have HC198 := Aside0.mk (show y194.length ≤ c22 from by rw [hy22, hc22]; exact Nat.sub_le_sub_right hroom22 _); clear hr22 hC22 hroom22 hi022 hsz22 hc22; have KY22 := Aside0.mk hy22; have KA22 := Aside0.mk hA22; clear hy22 hA22; replace q22 := eq_true q22))
                  repeat (go_quiet (first | (go_at_call 15; (with_reducible refine (spec_Rune.calls k1 _ _ x9_1 t191 t192 true _ ?side1 ?side2 A17.out).mono ?_); (case side1 => repeat (first | exact (Kd.V_reads' HO_9.out).2.2 | (with_reducible refine Kd.C_alloc ?_ _) | (with_reducible refine Kd.C_drewN ?_ _) | (with_reducible refine Kd.C_drew ?_))); (case side2 => exact (Kd.V_reads' HO_9.out).2.1); rintro e w' ⟨rfl, ⟨nd, rfl⟩⟩; (try first | exact ⟨rfl, _, World.drewN_drewN _ _ _⟩ | exact ⟨rfl, _, Eq.trans (World.drewN_drewN _ _ _) (congrArg (World.drewN _) (Nat.add_assoc _ _ _))⟩); have q22 : (t192 : Int) ≤ ((x9_1.length : Int) : Int) := of_decide_eq_true (by first | (with_reducible assumption) | assumption); obtain ⟨i022, hi022, _, hsz22, _⟩ := info_parts info5; have hroom22 : x9_1.length ≤ co21 := (Kd.V_reads' HO_9.out).2.1; have hC22 : Kd.F (Kd.int .u8) _ _ Ao21 x9_1.length x9_1 := (Kd.V_at (base := w.heap.size) HO_9.out).2.2; have q022 : (0 : Int) ≤ (t192 : Int) := of_decide_eq_true (by first | (with_reducible assumption) | assumption); have hcut22 := cut_from (P := Tryd.prog) 24 5 .i64 Tryd.underlying24 hi022 1 hsz22 Ao21 x9_1.length co21 t192 q022 q22; have hr22 := Kd.F_cut (m := (t192 : Int).toNat) (c := co21) hC22 (by omega) hroom22; obtain ⟨A22, hA22⟩ : ∃ A1, A1 = (if co21 = (t192 : Int).toNat then Ao21 else (Ao21 : Option Addr).map (·.add ((t192 : Int).toNat * 1))) := ⟨_, rfl⟩; obtain ⟨c22, hc22⟩ : ∃ c1, c1 = co21 - (t192 : Int).toNat := ⟨_, rfl⟩; have hy22 : y194.length = x9_1.length - (t192 : Int).toNat := (by rw [Ny194.out, List.length_drop] <;> omega); rw [show (x9_1).drop (t192 : Int).toNat = y194 from Ny194.out.symm] at hr22; replace hr22 : Kd.F (Kd.int .u8) _ _ A22 y194.length y194 := (by rw [hA22]; exact hr22); rw [← hy22, ← hA22, ← hc22] at hcut22; have HO198 := Aside0.mk (show Kd.V (Kd.int .u8) 5 _ w.heap.size _ (.slice A22 y194.length c22) y194 from Kd.V_mk (by rw [hy22, hc22]; exact Nat.sub_le_sub_right hroom22 _) hr22); have HC198 := Aside0.mk (show y194.length ≤ c22 from by rw [hy22, hc22]; exact Nat.sub_le_sub_right hroom22 _); clear hr22 hC22 hroom22 hi022 hsz22 hc22; have KY22 := Aside0.mk hy22; have KA22 := Aside0.mk hA22; clear hy22 hA22; replace q22 := eq_true q22)); try go_wp2_with (first | (go_at_call 15; (with_reducible refine (spec_Rune.calls k1 _ _ x9_1 t191 t192 true _ ?side1 ?side2 A17.out).mono ?_); (case side1 => repeat (first | exact (Kd.V_reads' HO_9.out).2.2 | (with_reducible refine Kd.C_alloc ?_ _) | (with_reducible refine Kd.C_drewN ?_ _) | (with_reducible refine Kd.C_drew ?_))); (case side2 => exact (Kd.V_reads' HO_9.out).2.1); rintro e w' ⟨rfl, ⟨nd, rfl⟩⟩; (try first | exact ⟨rfl, _, World.drewN_drewN _ _ _⟩ | exact ⟨rfl, _, Eq.trans (World.drewN_drewN _ _ _) (congrArg (World.drewN _) (Nat.add_assoc _ _ _))⟩); have q22 : (t192 : Int) ≤ ((x9_1.length : Int) : Int) := of_decide_eq_true (by first | (with_reducible assumption) | assumption); obtain ⟨i022, hi022, _, hsz22, _⟩ := info_parts info5; have hroom22 : x9_1.length ≤ co21 := (Kd.V_reads' HO_9.out).2.1; have hC22 : Kd.F (Kd.int .u8) _ _ Ao21 x9_1.length x9_1 := (Kd.V_at (base := w.heap.size) HO_9.out).2.2; have q022 : (0 : Int) ≤ (t192 : Int) := of_decide_eq_true (by first | (with_reducible assumption) | assumption); have hcut22 := cut_from (P := Tryd.prog) 24 5 .i64 Tryd.underlying24 hi022 1 hsz22 Ao21 x9_1.length co21 t192 q022 q22; have hr22 := Kd.F_cut (m := (t192 : Int).toNat) (c := co21) hC22 (by omega) hroom22; obtain ⟨A22, hA22⟩ : ∃ A1, A1 = (if co21 = (t192 : Int).toNat then Ao21 else (Ao21 : Option Addr).map (·.add ((t192 : Int).toNat * 1))) := ⟨_, rfl⟩; obtain ⟨c22, hc22⟩ : ∃ c1, c1 = co21 - (t192 : Int).toNat := ⟨_, rfl⟩; have hy22 : y194.length = x9_1.length - (t192 : Int).toNat := (by rw [Ny194.out, List.length_drop] <;> omega); rw [show (x9_1).drop (t192 : Int).toNat = y194 from Ny194.out.symm] at hr22; replace hr22 : Kd.F (Kd.int .u8) _ _ A22 y194.length y194 := (by rw [hA22]; exact hr22); rw [← hy22, ← hA22, ← hc22] at hcut22; have HO198 := Aside0.mk (show Kd.V (Kd.int .u8) 5 _ w.heap.size _ (.slice A22 y194.length c22) y194 from Kd.V_mk (by rw [hy22, hc22]; exact Nat.sub_le_sub_right hroom22 _) hr22); have HC198 := Aside0.mk (show y194.length ≤ c22 from by rw [hy22, hc22]; exact Nat.sub_le_sub_right hroom22 _); clear hr22 hC22 hroom22 hi022 hsz22 hc22; have KY22 := Aside0.mk hy22; have KA22 := Aside0.mk hA22; clear hy22 hA22; replace q22 := eq_true q22)))
                  go_roundg k1
                  case measure => have := HK1.out; omega
                  case rel => exact ⟨(y194), H', ⟨by have := HK1.out; omega⟩, ⟨by (with_reducible repeat (first | apply Kd.V_alloc | apply Kd.V_drewN | apply Kd.V_drew)); exact HO_1.out⟩, ⟨by (with_reducible repeat (first | apply Kd.V_alloc | apply Kd.V_drewN | apply Kd.V_drew)); exact HO198.out⟩, ⟨by repeat (first | (with_reducible first | exact HB.out | apply below_alloc | apply pw_below_drewN | apply below_drew1) | exact HB.out)⟩⟩
                · rw [if_neg c20] at H
                  exact absurd H (by simp)
              · rw [if_neg c19] at H
                exact absurd H (by simp)
            · replace c18 := Bool.eq_false_iff.mpr c18
              subst c18
              have H1 : (some ((⟨#[]⟩ : ByteArray), false)) = some (r1, r2) := by rw [if_neg (show ¬ (false = true) by decide)] at H; exact H
              clear H
              have H := H1
              clear H1
              simp only [Option.some.injEq, Prod.mk.injEq] at H
              obtain ⟨rfl, rfl⟩ := H
              obtain ⟨Ao23, co23, eo23⟩ := Kd.V_slice HO_9.out
              subst eo23
              go_wp2_with (first | (go_at_call 15; (with_reducible refine (spec_Rune.calls k1 _ _ x9_1 t191 t192 false _ ?side1 ?side2 A17.out).mono ?_); (case side1 => repeat (first | exact (Kd.V_reads' HO_9.out).2.2 | (with_reducible refine Kd.C_alloc ?_ _) | (with_reducible refine Kd.C_drewN ?_ _) | (with_reducible refine Kd.C_drew ?_))); (case side2 => exact (Kd.V_reads' HO_9.out).2.1); rintro e w' ⟨rfl, ⟨nd, rfl⟩⟩; (try first | exact ⟨rfl, _, World.drewN_drewN _ _ _⟩ | exact ⟨rfl, _, Eq.trans (World.drewN_drewN _ _ _) (congrArg (World.drewN _) (Nat.add_assoc _ _ _))⟩)))
              repeat (go_quiet (first | (go_at_call 15; (with_reducible refine (spec_Rune.calls k1 _ _ x9_1 t191 t192 false _ ?side1 ?side2 A17.out).mono ?_); (case side1 => repeat (first | exact (Kd.V_reads' HO_9.out).2.2 | (with_reducible refine Kd.C_alloc ?_ _) | (with_reducible refine Kd.C_drewN ?_ _) | (with_reducible refine Kd.C_drew ?_))); (case side2 => exact (Kd.V_reads' HO_9.out).2.1); rintro e w' ⟨rfl, ⟨nd, rfl⟩⟩; (try first | exact ⟨rfl, _, World.drewN_drewN _ _ _⟩ | exact ⟨rfl, _, Eq.trans (World.drewN_drewN _ _ _) (congrArg (World.drewN _) (Nat.add_assoc _ _ _))⟩))); try go_wp2_with (first | (go_at_call 15; (with_reducible refine (spec_Rune.calls k1 _ _ x9_1 t191 t192 false _ ?side1 ?side2 A17.out).mono ?_); (case side1 => repeat (first | exact (Kd.V_reads' HO_9.out).2.2 | (with_reducible refine Kd.C_alloc ?_ _) | (with_reducible refine Kd.C_drewN ?_ _) | (with_reducible refine Kd.C_drew ?_))); (case side2 => exact (Kd.V_reads' HO_9.out).2.1); rintro e w' ⟨rfl, ⟨nd, rfl⟩⟩; (try first | exact ⟨rfl, _, World.drewN_drewN _ _ _⟩ | exact ⟨rfl, _, Eq.trans (World.drewN_drewN _ _ _) (congrArg (World.drewN _) (Nat.add_assoc _ _ _))⟩))))
              go_ret2
              exact ⟨by first | rfl | (simp [errW_none, errW_some] <;> rfl) | (simp [*, errW_none, errW_some] <;> rfl), by repeat (first | (with_reducible first | exact HB.out | apply below_alloc | apply pw_below_drewN | apply below_drew1) | exact HB.out)⟩
          · rw [if_neg c16] at H
            have c16b0 : decide (0 < (x9_1.length : Int)) = false := decide_eq_false c16
            have c16b1 : decide (0 < x9_1.length) = false := decide_eq_false (by omega)
            clear c16
            simp only [Option.some.injEq, Prod.mk.injEq] at H
            obtain ⟨rfl, rfl⟩ := H
            obtain ⟨Ao24, co24, eo24⟩ := Kd.V_slice HO_9.out
            subst eo24
            have hcv25 := Kd.C_string (P := Tryd.prog) (A := A1) (c := c1) Tryd.underlying24 Tryd.underlying5 Tryd.underlying9 (Kd.V_reads' HO_1.out).2.2
            go_wp2
            repeat (go_quiet (fail); try go_wp2)
            go_ret2
            exact ⟨by first | rfl | (simp [errW_none, errW_some] <;> rfl) | (simp [*, errW_none, errW_some] <;> rfl), by repeat (first | (with_reducible first | exact HB.out | apply below_alloc | apply pw_below_drewN | apply below_drew1) | exact HB.out)⟩
    · rw [if_neg c13] at H
      have c13b0 : (a0 == 4) = false := beq_eq_false_iff_ne.mpr c13
      have c13b1 : (a0 != 4) = true := bne_iff_ne.mpr c13
      by_cases c26 : a0 = 5
      · rw [if_pos c26] at H
        have c26b0 : (a0 == 5) = true := beq_iff_eq.mpr c26
        have c26b1 : (a0 != 5) = false := bne_eq_false_iff_eq.mpr c26
        clear c26
        by_cases c27 : ((l1.length : Int) % 2) = 1
        · rw [if_pos c27] at H
          have c27b0 : (((l1.length : Int) % 2) == 1) = true := beq_iff_eq.mpr c27
          have c27b1 : (((l1.length : Int) % 2) != 1) = false := bne_eq_false_iff_eq.mpr c27
          clear c27
          simp only [Option.some.injEq, Prod.mk.injEq] at H
          obtain ⟨rfl, rfl⟩ := H
          go_enter Tryd.func8, Tryd.ntmps8
          go_wp2_with (first | ((with_reducible refine gate_dst (N := 18) rfl ?_); refine Kd.R_lit (Kd.int .u8) _ 5 ?hg (N := 18) ?hd (xs := ([] : List Int)) (inner := []) (ok := fun _ => True) (okp := fun _ => True) ?hr ?hp (fun _ hk => hk) trivial (Below.refl _ _) (Nat.le_refl _) (by simp) ?_; (case hd => rfl); (case hg => rfl); (case hr => first | (go_simp; done) | (go_simp; rfl)); (case hp => exact (Reps.none _ _)); intro v185 w28 ho29 hb hg_ hnew_; clear hg_ hnew_; (first | rw [← Ny184.out] at ho29 | (simp only [Int.reduceToNat] at ho29; rw [← Ny184.out] at ho29)); have n0_ := Aside0.mk (Kd.V_elder' (by (with_reducible repeat (first | apply Kd.V_alloc | apply Kd.V_drewN | apply Kd.V_drew)); exact HO1.out) (Kd.R_base ho29) hb); have n1_ := Aside0.mk (Kd.R_lower (Kd.R_newM (M := fun k_ => (w.heap.size ≤ k_)) ho29 (below_size (by repeat (first | (with_reducible first | exact HB.out | apply below_alloc | apply pw_below_drewN | apply below_drew1) | exact HB.out))) (fun k_ h_ => h_)) (below_size (by repeat (first | (with_reducible first | exact HB.out | apply below_alloc | apply pw_below_drewN | apply below_drew1) | exact HB.out)))); have n2_ := Aside0.mk (below_step (by repeat (first | (with_reducible first | exact HB.out | apply below_alloc | apply pw_below_drewN | apply below_drew1) | exact HB.out)) hb); clear HO1; clear HB; have HO1 := n0_; have HO186 := n1_; have HB := n2_; clear n0_ n1_ n2_; clear hb ho29))
          repeat (go_quiet (first | ((with_reducible refine gate_dst (N := 18) rfl ?_); refine Kd.R_lit (Kd.int .u8) _ 5 ?hg (N := 18) ?hd (xs := ([] : List Int)) (inner := []) (ok := fun _ => True) (okp := fun _ => True) ?hr ?hp (fun _ hk => hk) trivial (Below.refl _ _) (Nat.le_refl _) (by simp) ?_; (case hd => rfl); (case hg => rfl); (case hr => first | (go_simp; done) | (go_simp; rfl)); (case hp => exact (Reps.none _ _)); intro v185 w28 ho29 hb hg_ hnew_; clear hg_ hnew_; (first | rw [← Ny184.out] at ho29 | (simp only [Int.reduceToNat] at ho29; rw [← Ny184.out] at ho29)); have n0_ := Aside0.mk (Kd.V_elder' (by (with_reducible repeat (first | apply Kd.V_alloc | apply Kd.V_drewN | apply Kd.V_drew)); exact HO1.out) (Kd.R_base ho29) hb); have n1_ := Aside0.mk (Kd.R_lower (Kd.R_newM (M := fun k_ => (w.heap.size ≤ k_)) ho29 (below_size (by repeat (first | (with_reducible first | exact HB.out | apply below_alloc | apply pw_below_drewN | apply below_drew1) | exact HB.out))) (fun k_ h_ => h_)) (below_size (by repeat (first | (with_reducible first | exact HB.out | apply below_alloc | apply pw_below_drewN | apply below_drew1) | exact HB.out)))); have n2_ := Aside0.mk (below_step (by repeat (first | (with_reducible first | exact HB.out | apply below_alloc | apply pw_below_drewN | apply below_drew1) | exact HB.out)) hb); clear HO1; clear HB; have HO1 := n0_; have HO186 := n1_; have HB := n2_; clear n0_ n1_ n2_; clear hb ho29)); try go_wp2_with (first | ((with_reducible refine gate_dst (N := 18) rfl ?_); refine Kd.R_lit (Kd.int .u8) _ 5 ?hg (N := 18) ?hd (xs := ([] : List Int)) (inner := []) (ok := fun _ => True) (okp := fun _ => True) ?hr ?hp (fun _ hk => hk) trivial (Below.refl _ _) (Nat.le_refl _) (by simp) ?_; (case hd => rfl); (case hg => rfl); (case hr => first | (go_simp; done) | (go_simp; rfl)); (case hp => exact (Reps.none _ _)); intro v185 w28 ho29 hb hg_ hnew_; clear hg_ hnew_; (first | rw [← Ny184.out] at ho29 | (simp only [Int.reduceToNat] at ho29; rw [← Ny184.out] at ho29)); have n0_ := Aside0.mk (Kd.V_elder' (by (with_reducible repeat (first | apply Kd.V_alloc | apply Kd.V_drewN | apply Kd.V_drew)); exact HO1.out) (Kd.R_base ho29) hb); have n1_ := Aside0.mk (Kd.R_lower (Kd.R_newM (M := fun k_ => (w.heap.size ≤ k_)) ho29 (below_size (by repeat (first | (with_reducible first | exact HB.out | apply below_alloc | apply pw_below_drewN | apply below_drew1) | exact HB.out))) (fun k_ h_ => h_)) (below_size (by repeat (first | (with_reducible first | exact HB.out | apply below_alloc | apply pw_below_drewN | apply below_drew1) | exact HB.out)))); have n2_ := Aside0.mk (below_step (by repeat (first | (with_reducible first | exact HB.out | apply below_alloc | apply pw_below_drewN | apply below_drew1) | exact HB.out)) hb); clear HO1; clear HB; have HO1 := n0_; have HO186 := n1_; have HB := n2_; clear n0_ n1_ n2_; clear hb ho29)))
          go_ret2
          exact ⟨by first | rfl | (simp [errW_none, errW_some] <;> rfl) | (simp [*, errW_none, errW_some] <;> rfl), by repeat (first | (with_reducible first | exact HB.out | apply below_alloc | apply pw_below_drewN | apply below_drew1) | exact HB.out)⟩
        · rw [if_neg c27] at H
          have c27b0 : (((l1.length : Int) % 2) == 1) = false := beq_eq_false_iff_ne.mpr c27
          have c27b1 : (((l1.length : Int) % 2) != 1) = true := bne_iff_ne.mpr c27
          have HC30 := Aside0.mk H
          clear H
          go_enter Tryd.func8, Tryd.ntmps8
          go_upto_region 22 with (first | ((with_reducible refine gate_dst (N := 18) rfl ?_); refine Kd.R_lit (Kd.int .u8) _ 5 ?hg (N := 18) ?hd (xs := ([] : List Int)) (inner := []) (ok := fun _ => True) (okp := fun _ => True) ?hr ?hp (fun _ hk => hk) trivial (Below.refl _ _) (Nat.le_refl _) (by simp) ?_; (case hd => rfl); (case hg => rfl); (case hr => first | (go_simp; done) | (go_simp; rfl)); (case hp => exact (Reps.none _ _)); intro v185 w31 ho32 hb hg_ hnew_; clear hg_ hnew_; (first | rw [← Ny184.out] at ho32 | (simp only [Int.reduceToNat] at ho32; rw [← Ny184.out] at ho32)); have n0_ := Aside0.mk (Kd.V_elder' (by (with_reducible repeat (first | apply Kd.V_alloc | apply Kd.V_drewN | apply Kd.V_drew)); exact HO1.out) (Kd.R_base ho32) hb); have n1_ := Aside0.mk (Kd.R_lower (Kd.R_newM (M := fun k_ => (w.heap.size ≤ k_)) ho32 (below_size (by repeat (first | (with_reducible first | exact HB.out | apply below_alloc | apply pw_below_drewN | apply below_drew1) | exact HB.out))) (fun k_ h_ => h_)) (below_size (by repeat (first | (with_reducible first | exact HB.out | apply below_alloc | apply pw_below_drewN | apply below_drew1) | exact HB.out)))); have n2_ := Aside0.mk (below_step (by repeat (first | (with_reducible first | exact HB.out | apply below_alloc | apply pw_below_drewN | apply below_drew1) | exact HB.out)) hb); clear HO1; clear HB; have HO1 := n0_; have HO186 := n1_; have HB := n2_; clear n0_ n1_ n2_; clear hb ho32))
          repeat (go_quiet (first | ((with_reducible refine gate_dst (N := 18) rfl ?_); refine Kd.R_lit (Kd.int .u8) _ 5 ?hg (N := 18) ?hd (xs := ([] : List Int)) (inner := []) (ok := fun _ => True) (okp := fun _ => True) ?hr ?hp (fun _ hk => hk) trivial (Below.refl _ _) (Nat.le_refl _) (by simp) ?_; (case hd => rfl); (case hg => rfl); (case hr => first | (go_simp; done) | (go_simp; rfl)); (case hp => exact (Reps.none _ _)); intro v185 w31 ho32 hb hg_ hnew_; clear hg_ hnew_; (first | rw [← Ny184.out] at ho32 | (simp only [Int.reduceToNat] at ho32; rw [← Ny184.out] at ho32)); have n0_ := Aside0.mk (Kd.V_elder' (by (with_reducible repeat (first | apply Kd.V_alloc | apply Kd.V_drewN | apply Kd.V_drew)); exact HO1.out) (Kd.R_base ho32) hb); have n1_ := Aside0.mk (Kd.R_lower (Kd.R_newM (M := fun k_ => (w.heap.size ≤ k_)) ho32 (below_size (by repeat (first | (with_reducible first | exact HB.out | apply below_alloc | apply pw_below_drewN | apply below_drew1) | exact HB.out))) (fun k_ h_ => h_)) (below_size (by repeat (first | (with_reducible first | exact HB.out | apply below_alloc | apply pw_below_drewN | apply below_drew1) | exact HB.out)))); have n2_ := Aside0.mk (below_step (by repeat (first | (with_reducible first | exact HB.out | apply below_alloc | apply pw_below_drewN | apply below_drew1) | exact HB.out)) hb); clear HO1; clear HB; have HO1 := n0_; have HO186 := n1_; have HB := n2_; clear n0_ n1_ n2_; clear hb ho32)); go_upto_region 22 with (first | ((with_reducible refine gate_dst (N := 18) rfl ?_); refine Kd.R_lit (Kd.int .u8) _ 5 ?hg (N := 18) ?hd (xs := ([] : List Int)) (inner := []) (ok := fun _ => True) (okp := fun _ => True) ?hr ?hp (fun _ hk => hk) trivial (Below.refl _ _) (Nat.le_refl _) (by simp) ?_; (case hd => rfl); (case hg => rfl); (case hr => first | (go_simp; done) | (go_simp; rfl)); (case hp => exact (Reps.none _ _)); intro v185 w31 ho32 hb hg_ hnew_; clear hg_ hnew_; (first | rw [← Ny184.out] at ho32 | (simp only [Int.reduceToNat] at ho32; rw [← Ny184.out] at ho32)); have n0_ := Aside0.mk (Kd.V_elder' (by (with_reducible repeat (first | apply Kd.V_alloc | apply Kd.V_drewN | apply Kd.V_drew)); exact HO1.out) (Kd.R_base ho32) hb); have n1_ := Aside0.mk (Kd.R_lower (Kd.R_newM (M := fun k_ => (w.heap.size ≤ k_)) ho32 (below_size (by repeat (first | (with_reducible first | exact HB.out | apply below_alloc | apply pw_below_drewN | apply below_drew1) | exact HB.out))) (fun k_ h_ => h_)) (below_size (by repeat (first | (with_reducible first | exact HB.out | apply below_alloc | apply pw_below_drewN | apply below_drew1) | exact HB.out)))); have n2_ := Aside0.mk (below_step (by repeat (first | (with_reducible first | exact HB.out | apply below_alloc | apply pw_below_drewN | apply below_drew1) | exact HB.out)) hb); clear HO1; clear HB; have HO1 := n0_; have HO186 := n1_; have HB := n2_; clear n0_ n1_ n2_; clear hb ho32)))
          (try simp only [Act.put, List.setIfInBounds_toArray, List.set_cons_zero, List.set_cons_succ])
          go_cut [79] (fun v79 wc => ∃ (kq : Nat) (x79_29 : Bool), v79 = .bool x79_29 ∧ Aside0 (spec_Text.j2 kq l1 y184 (l1.length : Int) x79_29 = some (r1, r2)) ∧ Aside0 (kq ≤ k) ∧ Aside0 (Kd.V (Kd.int .u8) 5 wc w.heap.size (fun k_ => (P1_ k_ ∨ w.heap.size ≤ k_) ∧ some k_ ≠ (v185 : Value).ownBlock) (.slice A1 l1.length c1) l1) ∧ Aside0 (Kd.R (Kd.int .u8) 5 wc w.heap.size (fun k_ => (w.heap.size ≤ k_)) v185 y184) ∧ Aside0 (Below w.heap.size w wc))
          case first =>
            have H := HC30.out
            clear HC30
            by_cases c33 : (l1.length : Int) > 0
            · rw [if_pos c33] at H
              have c33b0 : decide (0 < (l1.length : Int)) = true := decide_eq_true c33
              have c33b1 : decide (0 < l1.length) = true := decide_eq_true (by omega)
              clear c33
              (first | rw [c33b0] | (simp only [i64_w, i32_w]; rw [c33b0]) | skip)
              obtain ⟨ji34, hji34⟩ : ∃ j_ : Int, (wrap64 ((l1.length : Int) - 1)) = j_ := ⟨_, rfl⟩
              replace H : (if 0 ≤ (ji34) then (if (ji34) < (l1.length : Int) then (if (rd l1 (ji34)) = 0 then (if 0 ≤ (wrap64 ((l1.length : Int) - 2)) then (if (wrap64 ((l1.length : Int) - 2)) < (l1.length : Int) then (spec_Text.j2 k l1 y184 (l1.length : Int) ((rd l1 (wrap64 ((l1.length : Int) - 2))) == 0)) else (none)) else (none)) else (spec_Text.j2 k l1 y184 (l1.length : Int) false)) else (none)) else (none)) = some (r1, r2) := by first | (rw [hji34] at H; exact H) | (simp only [hji34] at H ⊢; exact H)
              have hji34w : (IntKind.i64.wrap ((l1.length : Int) - 1)) = ji34 := (i64_w _).trans hji34
              by_cases c35 : 0 ≤ (ji34)
              · rw [if_pos c35] at H
                have c35b0 : decide (0 ≤ (ji34)) = true := decide_eq_true c35
                clear c35
                by_cases c36 : (ji34) < (l1.length : Int)
                · rw [if_pos c36] at H
                  have c36b0 : decide ((ji34) < (l1.length : Int)) = true := decide_eq_true c36
                  clear c36
                  by_cases c37 : (rd l1 (ji34)) = 0
                  · rw [if_pos c37] at H
                    have c37b0 : ((rd l1 (ji34)) == 0) = true := beq_iff_eq.mpr c37
                    have c37b1 : ((rd l1 (ji34)) != 0) = false := bne_eq_false_iff_eq.mpr c37
                    clear c37
                    obtain ⟨ji38, hji38⟩ : ∃ j_ : Int, (wrap64 ((l1.length : Int) - 2)) = j_ := ⟨_, rfl⟩
                    replace H : (if 0 ≤ (ji38) then (if (ji38) < (l1.length : Int) then (spec_Text.j2 k l1 y184 (l1.length : Int) ((rd l1 (ji38)) == 0)) else (none)) else (none)) = some (r1, r2) := by first | (rw [hji38] at H; exact H) | (simp only [hji38] at H ⊢; exact H)
                    have hji38w : (IntKind.i64.wrap ((l1.length : Int) - 2)) = ji38 := (i64_w _).trans hji38
                    by_cases c39 : 0 ≤ (ji38)
                    · rw [if_pos c39] at H
                      have c39b0 : decide (0 ≤ (ji38)) = true := decide_eq_true c39
                      clear c39
                      by_cases c40 : (ji38) < (l1.length : Int)
                      · rw [if_pos c40] at H
                        have c40b0 : decide ((ji38) < (l1.length : Int)) = true := decide_eq_true c40
                        clear c40
                        have H' := Aside0.mk H
                        clear H
                        have p199 : 0 ≤ ((ji34) : Int) := of_decide_eq_true (by first | (with_reducible assumption) | assumption)
                        have q199 : (ji34) < (l1.length : Int) := of_decide_eq_true (by first | (with_reducible assumption) | assumption)
                        obtain ⟨ad199, e199, hx199_0⟩ := Kd.at_int (Kd.V_reads' HO1.out).2.2 (ji34) p199 q199
                        cases e199
                        replace p199 := eq_true p199
                        replace q199 := eq_true q199
                        have p200 : 0 ≤ ((ji38) : Int) := of_decide_eq_true (by first | (with_reducible assumption) | assumption)
                        have q200 : (ji38) < (l1.length : Int) := of_decide_eq_true (by first | (with_reducible assumption) | assumption)
                        obtain ⟨ad200, e200, hx200_0⟩ := Kd.at_int (Kd.V_reads' HO1.out).2.2 (ji38) p200 q200
                        obtain rfl : ad199 = ad200 := (by injection e200)
                        replace p200 := eq_true p200
                        replace q200 := eq_true q200
                        go_wp2
                        repeat (go_quiet (fail); try go_wp2)
                        go_meet
                        case rel => exact ⟨_, (((rd l1 (ji38)) == 0)), (by first | rfl | (simp; done) | (simp only [← hji38] <;> (first | rfl | simp)) | (simp [*]; done)), H', ⟨by first | omega | exact Nat.le_refl _⟩, ⟨by (with_reducible repeat (first | apply Kd.V_alloc | apply Kd.V_drewN | apply Kd.V_drew)); exact HO1.out⟩, ⟨by (with_reducible repeat (first | apply Kd.R_alloc | apply Kd.R_drewN | apply Kd.R_drew)); exact Kd.R_mono HO186.out (fun _ hk => hk.1)⟩, ⟨by repeat (first | (with_reducible first | exact HB.out | apply below_alloc | apply pw_below_drewN | apply below_drew1) | exact HB.out)⟩⟩
                      · rw [if_neg c40] at H
                        exact absurd H (by simp)
                    · rw [if_neg c39] at H
                      exact absurd H (by simp)
                  · rw [if_neg c37] at H
                    have c37b0 : ((rd l1 (ji34)) == 0) = false := beq_eq_false_iff_ne.mpr c37
                    have c37b1 : ((rd l1 (ji34)) != 0) = true := bne_iff_ne.mpr c37
                    have H' := Aside0.mk H
                    clear H
                    have p199 : 0 ≤ ((ji34) : Int) := of_decide_eq_true (by first | (with_reducible assumption) | assumption)
                    have q199 : (ji34) < (l1.length : Int) := of_decide_eq_true (by first | (with_reducible assumption) | assumption)
                    obtain ⟨ad199, e199, hx199_0⟩ := Kd.at_int (Kd.V_reads' HO1.out).2.2 (ji34) p199 q199
                    cases e199
                    replace p199 := eq_true p199
                    replace q199 := eq_true q199
                    go_wp2
                    repeat (go_quiet (fail); try go_wp2)
                    go_meet
                    case rel => exact ⟨_, (false), (by first | rfl | (simp; done) | (simp [*]; done)), H', ⟨by first | omega | exact Nat.le_refl _⟩, ⟨by (with_reducible repeat (first | apply Kd.V_alloc | apply Kd.V_drewN | apply Kd.V_drew)); exact HO1.out⟩, ⟨by (with_reducible repeat (first | apply Kd.R_alloc | apply Kd.R_drewN | apply Kd.R_drew)); exact Kd.R_mono HO186.out (fun _ hk => hk.1)⟩, ⟨by repeat (first | (with_reducible first | exact HB.out | apply below_alloc | apply pw_below_drewN | apply below_drew1) | exact HB.out)⟩⟩
                · rw [if_neg c36] at H
                  exact absurd H (by simp)
              · rw [if_neg c35] at H
                exact absurd H (by simp)
            · rw [if_neg c33] at H
              have c33b0 : decide (0 < (l1.length : Int)) = false := decide_eq_false c33
              have c33b1 : decide (0 < l1.length) = false := decide_eq_false (by omega)
              clear c33
              (first | rw [c33b0] | (simp only [i64_w, i32_w]; rw [c33b0]) | skip)
              have H' := Aside0.mk H
              clear H
              go_wp2
              repeat (go_quiet (fail); try go_wp2)
              go_meet
              case rel => exact ⟨_, (false), (by first | rfl | (simp; done) | (simp [*]; done)), H', ⟨by first | omega | exact Nat.le_refl _⟩, ⟨by (with_reducible repeat (first | apply Kd.V_alloc | apply Kd.V_drewN | apply Kd.V_drew)); exact HO1.out⟩, ⟨by (with_reducible repeat (first | apply Kd.R_alloc | apply Kd.R_drewN | apply Kd.R_drew)); exact Kd.R_mono HO186.out (fun _ hk => hk.1)⟩, ⟨by repeat (first | (with_reducible first | exact HB.out | apply below_alloc | apply pw_below_drewN | apply below_drew1) | exact HB.out)⟩⟩
          case rest =>
            clear HC30
            try clear c1
            try clear p1
            try clear q1
            try clear hx1
            try clear hcv1
            try clear c2
            try clear p2
            try clear q2
            try clear hx2
            try clear hcv2
            try clear c3
            try clear c3b0
            try clear c3b1
            try clear c4
            try clear c6
            try clear c6b0
            try clear p6
            try clear c7
            try clear c7b0
            try clear c8
            try clear c8b0
            try clear hcv12
            try clear c13
            try clear c13b0
            try clear c13b1
            try clear c16
            try clear c16b0
            try clear c16b1
            try clear c18
            try clear p18
            try clear q18
            try clear hx18
            try clear c19
            try clear c19b0
            try clear c19b1
            try clear p19
            try clear q19
            try clear hx19
            try clear c20
            try clear c20b0
            try clear c20b1
            try clear p20
            try clear q20
            try clear hx20
            try clear c22
            try clear q22
            try clear hcv25
            try clear c26
            try clear c26b0
            try clear c26b1
            try clear c27
            try clear c27b0
            try clear c27b1
            try clear c33
            try clear c33b0
            try clear c33b1
            try clear c35
            try clear c35b0
            try clear c36
            try clear c36b0
            try clear c37
            try clear c37b0
            try clear c37b1
            try clear c39
            try clear c39b0
            try clear c40
            try clear c40b0
            try clear hx187_0
            try clear hx199_0
            try clear hx200_0
            try clear p1
            try clear p187
            try clear p199
            try clear p2
            try clear p200
            try clear p6
            try clear q022
            try clear q1
            try clear q187
            try clear q199
            try clear q200
            try clear q22
            obtain ⟨kq, x79_29, rfl, HA, HJ29, HO_1, HO_6, HB⟩ := hcut
            cases kq with
            | zero => exact absurd HA.out (by simp [spec_Text.j2])
            | succ kj29 =>
              have H := HA.out
              clear HA
              simp only [spec_Text.j2] at H
              have HC41 := Aside0.mk H
              clear H
              go_upto_if 79 with (fail)
              repeat (go_quiet (fail); go_upto_if 79 with (fail))
              go_cut [1] (fun v1 wc => ∃ (kq : Nat) (x1_40 : List Int), Aside0 (spec_Text.j3 kq x1_40 y184 = some (r1, r2)) ∧ Aside0 (kq ≤ kj29) ∧ Aside0 (Kd.V (Kd.int .u8) 5 wc w.heap.size (fun k_ => (P1_ k_ ∨ w.heap.size ≤ k_) ∧ some k_ ≠ (v185 : Value).ownBlock) v1 x1_40) ∧ Aside0 (Kd.R (Kd.int .u8) 5 wc w.heap.size (fun k_ => (w.heap.size ≤ k_)) v185 y184) ∧ Aside0 (Below w.heap.size w wc))
              case first =>
                have H := HC41.out
                clear HC41
                by_cases c42 : x79_29 = true
                · subst c42
                  have H1 : (if 0 ≤ (wrap64 ((l1.length : Int) - 2)) then (if (wrap64 ((l1.length : Int) - 2)) ≤ (l1.length : Int) then (spec_Text.j3 kj29 (l1.take ((wrap64 ((l1.length : Int) - 2)) : Int).toNat) y184) else (none)) else (none)) = some (r1, r2) := by rw [if_pos rfl] at H; exact H
                  clear H
                  have H := H1
                  clear H1
                  obtain ⟨ji43, hji43⟩ : ∃ j_ : Int, (wrap64 ((l1.length : Int) - 2)) = j_ := ⟨_, rfl⟩
                  replace H : (if 0 ≤ (ji43) then (if (ji43) ≤ (l1.length : Int) then (spec_Text.j3 kj29 (l1.take ((ji43) : Int).toNat) y184) else (none)) else (none)) = some (r1, r2) := by first | (rw [hji43] at H; exact H) | (simp only [hji43] at H ⊢; exact H)
                  have hji43w : (IntKind.i64.wrap ((l1.length : Int) - 2)) = ji43 := (i64_w _).trans hji43
                  by_cases c44 : 0 ≤ (ji43)
                  · rw [if_pos c44] at H
                    have c44b0 := eq_true c44
                    have c44b1 : decide (0 ≤ (ji43)) = true := decide_eq_true c44
                    clear c44
                    by_cases c45 : (ji43) ≤ (l1.length : Int)
                    · rw [if_pos c45] at H
                      have c45b0 := eq_true c45
                      have c45b1 : decide ((ji43) ≤ (l1.length : Int)) = true := decide_eq_true c45
                      clear c45
                      obtain ⟨y201, hy201⟩ : ∃ y_ : List Int, y_ = (l1.take ((ji43) : Int).toNat) := ⟨_, rfl⟩
                      replace H : (spec_Text.j3 kj29 y201 y184) = some (r1, r2) := by first | (rw [hy201]; with_reducible exact H) | (have H2_ := (Option.bind_some _ _).symm.trans H; rw [hy201]; with_reducible exact H2_) | (have H2_ := (Option.bind_some _ _).symm.trans H; with_reducible exact H2_) | with_reducible exact H | (rw [hy201]; exact H) | exact H
                      have Ny201 := Aside0.mk hy201
                      clear hy201
                      have H' := Aside0.mk H
                      clear H
                      have q46 : ((ji43) : Int) ≤ ((l1.length : Int) : Int) := of_decide_eq_true (by first | (with_reducible assumption) | assumption)
                      obtain ⟨i046, hi046, _, hsz46, _⟩ := info_parts info5
                      have hroom46 : l1.length ≤ c1 := (Kd.V_reads' HO_1.out).2.1
                      have hC46 : Kd.F (Kd.int .u8) _ _ A1 l1.length l1 := (Kd.V_at (base := w.heap.size) HO_1.out).2.2
                      have hcut46 := cut_to (P := Tryd.prog) 24 5 .i64 Tryd.underlying24 hi046 A1 l1.length c1 (ji43) (of_decide_eq_true (by first | (with_reducible assumption) | assumption)) q46 hroom46
                      have hr46 := Kd.F_take (m := ((ji43) : Int).toNat) hC46 (by omega)
                      have hy46 : y201.length = ((ji43) : Int).toNat := (by rw [Ny201.out, List.length_take]; omega)
                      rw [← Ny201.out] at hr46
                      rw [← hy46] at hcut46
                      have HO205 := Aside0.mk (show Kd.V (Kd.int .u8) 5 _ w.heap.size _ (.slice A1 y201.length c1) y201 from Kd.V_mk (by omega) hr46)
                      have HC205 := Aside0.mk (show y201.length ≤ c1 from by omega)
                      clear hr46 hC46 hroom46 hi046 hsz46
                      have KY46 := Aside0.mk hy46
                      clear hy46
                      replace q46 := eq_true q46
                      go_wp2
                      repeat (go_quiet (fail); try go_wp2)
                      go_meet
                      case rel => exact ⟨_, (y201), H', ⟨by have := HJ29.out; first | omega | exact Nat.le_refl _⟩, ⟨by (with_reducible repeat (first | apply Kd.V_alloc | apply Kd.V_drewN | apply Kd.V_drew)); exact HO205.out⟩, ⟨by (with_reducible repeat (first | apply Kd.R_alloc | apply Kd.R_drewN | apply Kd.R_drew)); exact HO_6.out⟩, ⟨by repeat (first | (with_reducible first | exact HB.out | apply below_alloc | apply pw_below_drewN | apply below_drew1) | exact HB.out)⟩⟩
                    · rw [if_neg c45] at H
                      exact absurd H (by simp)
                  · rw [if_neg c44] at H
                    exact absurd H (by simp)
                · replace c42 := Bool.eq_false_iff.mpr c42
                  subst c42
                  have H1 : (spec_Text.j3 kj29 l1 y184) = some (r1, r2) := by rw [if_neg (show ¬ (false = true) by decide)] at H; exact H
                  clear H
                  have H := H1
                  clear H1
                  have H' := Aside0.mk H
                  clear H
                  go_wp2
                  repeat (go_quiet (fail); try go_wp2)
                  go_meet
                  case rel => exact ⟨_, (l1), H', ⟨by have := HJ29.out; first | omega | exact Nat.le_refl _⟩, ⟨by (with_reducible repeat (first | apply Kd.V_alloc | apply Kd.V_drewN | apply Kd.V_drew)); exact HO_1.out⟩, ⟨by (with_reducible repeat (first | apply Kd.R_alloc | apply Kd.R_drewN | apply Kd.R_drew)); exact HO_6.out⟩, ⟨by repeat (first | (with_reducible first | exact HB.out | apply below_alloc | apply pw_below_drewN | apply below_drew1) | exact HB.out)⟩⟩
              case rest =>
                clear HC41
                try clear c1
                try clear p1
                try clear q1
                try clear hx1
                try clear hcv1
                try clear c2
                try clear p2
                try clear q2
                try clear hx2
                try clear hcv2
                try clear c3
                try clear c3b0
                try clear c3b1
                try clear c4
                try clear q4
                try clear c6
                try clear c6b0
                try clear p6
                try clear c7
                try clear c7b0
                try clear c8
                try clear c8b0
                try clear hcv12
                try clear c13
                try clear c13b0
                try clear c13b1
                try clear c16
                try clear c16b0
                try clear c16b1
                try clear c18
                try clear p18
                try clear q18
                try clear hx18
                try clear c19
                try clear c19b0
                try clear c19b1
                try clear p19
                try clear q19
                try clear hx19
                try clear c20
                try clear c20b0
                try clear c20b1
                try clear p20
                try clear q20
                try clear hx20
                try clear c22
                try clear q22
                try clear hcv25
                try clear c26
                try clear c26b0
                try clear c26b1
                try clear c27
                try clear c27b0
                try clear c27b1
                try clear c33
                try clear c33b0
                try clear c33b1
                try clear c35
                try clear c35b0
                try clear c36
                try clear c36b0
                try clear c37
                try clear c37b0
                try clear c37b1
                try clear c39
                try clear c39b0
                try clear c40
                try clear c40b0
                try clear c42
                try clear c44
                try clear c44b0
                try clear c44b1
                try clear c45
                try clear c45b0
                try clear c45b1
                try clear q46
                try clear hx187_0
                try clear hx199_0
                try clear hx200_0
                try clear p1
                try clear p18
                try clear p187
                try clear p19
                try clear p199
                try clear p2
                try clear p20
                try clear p200
                try clear p6
                try clear q022
                try clear q1
                try clear q18
                try clear q187
                try clear q19
                try clear q199
                try clear q2
                try clear q20
                try clear q200
                try clear q22
                try clear q46
                obtain ⟨kq, x1_40, HA, HJ40, HO_1, HO_6, HB⟩ := hcut
                cases kq with
                | zero => exact absurd HA.out (by simp [spec_Text.j3])
                | succ kj40 =>
                  have H := HA.out
                  clear HA
                  simp only [spec_Text.j3] at H
                  have H' := Aside0.mk H
                  clear H
                  go_wp2
                  repeat (go_quiet (fail); try go_wp2)
                  go_loopg [6, 14] kj40 (fun kq v6 v14 w' => ∃ (x6_3 : List Int) (x14_3 : Int), v14 = .int .i64 x14_3 ∧ Aside0 (spec_Text.l2 kq x1_40 x6_3 x14_3 = some (r1, r2)) ∧ Aside0 (kq ≤ kj40) ∧ Aside0 (Kd.V (Kd.int .u8) 5 w' w.heap.size (fun k_ => (P1_ k_ ∨ w.heap.size ≤ k_) ∧ some k_ ≠ (v6 : Value).ownBlock) u1 x1_40) ∧ Aside0 (Kd.R (Kd.int .u8) 5 w' w.heap.size (fun k_ => (w.heap.size ≤ k_)) v6 x6_3) ∧ Aside0 (Below w.heap.size w w'))
                  case atStart => exact ⟨(y184), (0), (by first | rfl | (simp; done) | (simp [*]; done)), H', ⟨Nat.le_refl _⟩, ⟨by (with_reducible repeat (first | apply Kd.V_alloc | apply Kd.V_drewN | apply Kd.V_drew)); exact HO_1.out⟩, ⟨by (with_reducible repeat (first | apply Kd.R_alloc | apply Kd.R_drewN | apply Kd.R_drew)); exact HO_6.out⟩, ⟨by repeat (first | (with_reducible first | exact HB.out | apply below_alloc | apply pw_below_drewN | apply below_drew1) | exact HB.out)⟩⟩
                  case round =>
                    clear H'
                    try clear c1
                    try clear p1
                    try clear q1
                    try clear hx1
                    try clear hcv1
                    try clear c2
                    try clear p2
                    try clear q2
                    try clear hx2
                    try clear hcv2
                    try clear c3
                    try clear c3b0
                    try clear c3b1
                    try clear c4
                    try clear q4
                    try clear c6
                    try clear c6b0
                    try clear p6
                    try clear c7
                    try clear c7b0
                    try clear c8
                    try clear c8b0
                    try clear hcv12
                    try clear c13
                    try clear c13b0
                    try clear c13b1
                    try clear c16
                    try clear c16b0
                    try clear c16b1
                    try clear c18
                    try clear p18
                    try clear q18
                    try clear hx18
                    try clear c19
                    try clear c19b0
                    try clear c19b1
                    try clear p19
                    try clear q19
                    try clear hx19
                    try clear c20
                    try clear c20b0
                    try clear c20b1
                    try clear p20
                    try clear q20
                    try clear hx20
                    try clear c22
                    try clear q22
                    try clear hcv25
                    try clear c26
                    try clear c26b0
                    try clear c26b1
                    try clear c27
                    try clear c27b0
                    try clear c27b1
                    try clear c33
                    try clear c33b0
                    try clear c33b1
                    try clear c35
                    try clear c35b0
                    try clear c36
                    try clear c36b0
                    try clear c37
                    try clear c37b0
                    try clear c37b1
                    try clear c39
                    try clear c39b0
                    try clear c40
                    try clear c40b0
                    try clear c42
                    try clear c44
                    try clear c44b0
                    try clear c44b1
                    try clear c45
                    try clear c45b0
                    try clear c45b1
                    try clear q46
                    try clear hx187_0
                    try clear hx199_0
                    try clear hx200_0
                    try clear p1
                    try clear p18
                    try clear p187
                    try clear p19
                    try clear p199
                    try clear p2
                    try clear p20
                    try clear p200
                    try clear p6
                    try clear q022
                    try clear q1
                    try clear q18
                    try clear q187
                    try clear q19
                    try clear q199
                    try clear q2
                    try clear q20
                    try clear q200
                    try clear q22
                    try clear q4
                    try clear q46
                    obtain ⟨x6_3, x14_3, rfl, HA, HK3, HO_1, HO_6, HB⟩ := hrel
                    cases gk with
                    | zero => exact absurd HA.out (by simp [spec_Text.l2])
                    | succ k3 =>
                      have H := HA.out
                      clear HA
                      simp only [spec_Text.l2] at H
                      by_cases c47 : x14_3 < (x1_40.length : Int)
                      · rw [if_pos c47] at H
                        have c47b0 : decide (x14_3 < (x1_40.length : Int)) = true := decide_eq_true c47
                        clear c47
                        by_cases c48 : 0 ≤ x14_3
                        · rw [if_pos c48] at H
                          have c48b0 : decide (0 ≤ x14_3) = true := decide_eq_true c48
                          clear c48
                          obtain ⟨ji49, hji49⟩ : ∃ j_ : Int, (wrap64 (x14_3 + 1)) = j_ := ⟨_, rfl⟩
                          replace H : (if 0 ≤ (ji49) then (if (ji49) < (x1_40.length : Int) then (if (Go.bits .or .i64 (wrap64 ((wrap64 (rd x1_40 x14_3)) * 256)) (wrap64 (rd x1_40 (ji49)))) ≥ 55296 then (if (Go.bits .or .i64 (wrap64 ((wrap64 (rd x1_40 x14_3)) * 256)) (wrap64 (rd x1_40 (ji49)))) < 57344 then (some ((⟨#[]⟩ : ByteArray), false)) else (if (Go.bits .or .i64 (wrap64 ((wrap64 (rd x1_40 x14_3)) * 256)) (wrap64 (rd x1_40 (ji49)))) ≥ 64976 then (if (Go.bits .or .i64 (wrap64 ((wrap64 (rd x1_40 x14_3)) * 256)) (wrap64 (rd x1_40 (ji49)))) ≤ 65007 then (some ((⟨#[]⟩ : ByteArray), false)) else (if (Go.bits .or .i64 (wrap64 ((wrap64 (rd x1_40 x14_3)) * 256)) (wrap64 (rd x1_40 (ji49)))) ≥ 65534 then (some ((⟨#[]⟩ : ByteArray), false)) else ((spec_put.f x6_3 (Go.bits .or .i64 (wrap64 ((wrap64 (rd x1_40 x14_3)) * 256)) (wrap64 (rd x1_40 (ji49))))).bind fun t208 => (spec_Text.l2 k3 x1_40 t208 (wrap64 (x14_3 + 2)))))) else (if (Go.bits .or .i64 (wrap64 ((wrap64 (rd x1_40 x14_3)) * 256)) (wrap64 (rd x1_40 (ji49)))) ≥ 65534 then (some ((⟨#[]⟩ : ByteArray), false)) else ((spec_put.f x6_3 (Go.bits .or .i64 (wrap64 ((wrap64 (rd x1_40 x14_3)) * 256)) (wrap64 (rd x1_40 (ji49))))).bind fun t211 => (spec_Text.l2 k3 x1_40 t211 (wrap64 (x14_3 + 2))))))) else (if (Go.bits .or .i64 (wrap64 ((wrap64 (rd x1_40 x14_3)) * 256)) (wrap64 (rd x1_40 (ji49)))) ≥ 64976 then (if (Go.bits .or .i64 (wrap64 ((wrap64 (rd x1_40 x14_3)) * 256)) (wrap64 (rd x1_40 (ji49)))) ≤ 65007 then (some ((⟨#[]⟩ : ByteArray), false)) else (if (Go.bits .or .i64 (wrap64 ((wrap64 (rd x1_40 x14_3)) * 256)) (wrap64 (rd x1_40 (ji49)))) ≥ 65534 then (some ((⟨#[]⟩ : ByteArray), false)) else ((spec_put.f x6_3 (Go.bits .or .i64 (wrap64 ((wrap64 (rd x1_40 x14_3)) * 256)) (wrap64 (rd x1_40 (ji49))))).bind fun t214 => (spec_Text.l2 k3 x1_40 t214 (wrap64 (x14_3 + 2)))))) else (if (Go.bits .or .i64 (wrap64 ((wrap64 (rd x1_40 x14_3)) * 256)) (wrap64 (rd x1_40 (ji49)))) ≥ 65534 then (some ((⟨#[]⟩ : ByteArray), false)) else ((spec_put.f x6_3 (Go.bits .or .i64 (wrap64 ((wrap64 (rd x1_40 x14_3)) * 256)) (wrap64 (rd x1_40 (ji49))))).bind fun t217 => (spec_Text.l2 k3 x1_40 t217 (wrap64 (x14_3 + 2))))))) else (none)) else (none)) = some (r1, r2) := by first | (rw [hji49] at H; exact H) | (simp only [hji49] at H ⊢; exact H)
                          have hji49w : (IntKind.i64.wrap (x14_3 + 1)) = ji49 := (i64_w _).trans hji49
                          by_cases c50 : 0 ≤ (ji49)
                          · rw [if_pos c50] at H
                            have c50b0 : decide (0 ≤ (ji49)) = true := decide_eq_true c50
                            clear c50
                            by_cases c51 : (ji49) < (x1_40.length : Int)
                            · rw [if_pos c51] at H
                              have c51b0 : decide ((ji49) < (x1_40.length : Int)) = true := decide_eq_true c51
                              clear c51
                              by_cases c52 : (Go.bits .or .i64 (wrap64 ((wrap64 (rd x1_40 x14_3)) * 256)) (wrap64 (rd x1_40 (ji49)))) ≥ 55296
                              · rw [if_pos c52] at H
                                have c52b0 : decide (55296 ≤ (Go.bits .or .i64 (wrap64 ((wrap64 (rd x1_40 x14_3)) * 256)) (wrap64 (rd x1_40 (ji49))))) = true := decide_eq_true c52
                                clear c52
                                by_cases c53 : (Go.bits .or .i64 (wrap64 ((wrap64 (rd x1_40 x14_3)) * 256)) (wrap64 (rd x1_40 (ji49)))) < 57344
                                · rw [if_pos c53] at H
                                  have c53b0 : decide ((Go.bits .or .i64 (wrap64 ((wrap64 (rd x1_40 x14_3)) * 256)) (wrap64 (rd x1_40 (ji49)))) < 57344) = true := decide_eq_true c53
                                  clear c53
                                  simp only [Option.some.injEq, Prod.mk.injEq] at H
                                  obtain ⟨rfl, rfl⟩ := H
                                  obtain ⟨Ao54, co54, eo54⟩ := Kd.V_slice HO_1.out
                                  subst eo54
                                  have p206 : 0 ≤ (x14_3 : Int) := of_decide_eq_true (by first | (with_reducible assumption) | assumption)
                                  have q206 : x14_3 < (x1_40.length : Int) := of_decide_eq_true (by first | (with_reducible assumption) | assumption)
                                  obtain ⟨ad206, e206, hx206_0⟩ := Kd.at_int (Kd.V_reads' HO_1.out).2.2 x14_3 p206 q206
                                  cases e206
                                  replace p206 := eq_true p206
                                  replace q206 := eq_true q206
                                  have p207 : 0 ≤ ((ji49) : Int) := of_decide_eq_true (by first | (with_reducible assumption) | assumption)
                                  have q207 : (ji49) < (x1_40.length : Int) := of_decide_eq_true (by first | (with_reducible assumption) | assumption)
                                  obtain ⟨ad207, e207, hx207_0⟩ := Kd.at_int (Kd.V_reads' HO_1.out).2.2 (ji49) p207 q207
                                  obtain rfl : ad206 = ad207 := (by injection e207)
                                  replace p207 := eq_true p207
                                  replace q207 := eq_true q207
                                  go_wp2
                                  repeat (go_quiet (fail); try go_wp2)
                                  go_ret2
                                  exact ⟨by first | rfl | (simp [errW_none, errW_some] <;> rfl) | (simp only [← hji49]; first | rfl | (simp [errW_none, errW_some] <;> rfl)) | (simp [*, errW_none, errW_some] <;> rfl), by repeat (first | (with_reducible first | exact HB.out | apply below_alloc | apply pw_below_drewN | apply below_drew1) | exact HB.out)⟩
                                · rw [if_neg c53] at H
                                  have c53b0 : decide ((Go.bits .or .i64 (wrap64 ((wrap64 (rd x1_40 x14_3)) * 256)) (wrap64 (rd x1_40 (ji49)))) < 57344) = false := decide_eq_false c53
                                  clear c53
                                  by_cases c55 : (Go.bits .or .i64 (wrap64 ((wrap64 (rd x1_40 x14_3)) * 256)) (wrap64 (rd x1_40 (ji49)))) ≥ 64976
                                  · rw [if_pos c55] at H
                                    have c55b0 : decide (64976 ≤ (Go.bits .or .i64 (wrap64 ((wrap64 (rd x1_40 x14_3)) * 256)) (wrap64 (rd x1_40 (ji49))))) = true := decide_eq_true c55
                                    clear c55
                                    by_cases c56 : (Go.bits .or .i64 (wrap64 ((wrap64 (rd x1_40 x14_3)) * 256)) (wrap64 (rd x1_40 (ji49)))) ≤ 65007
                                    · rw [if_pos c56] at H
                                      have c56b0 : decide ((Go.bits .or .i64 (wrap64 ((wrap64 (rd x1_40 x14_3)) * 256)) (wrap64 (rd x1_40 (ji49)))) ≤ 65007) = true := decide_eq_true c56
                                      clear c56
                                      simp only [Option.some.injEq, Prod.mk.injEq] at H
                                      obtain ⟨rfl, rfl⟩ := H
                                      obtain ⟨Ao57, co57, eo57⟩ := Kd.V_slice HO_1.out
                                      subst eo57
                                      have p206 : 0 ≤ (x14_3 : Int) := of_decide_eq_true (by first | (with_reducible assumption) | assumption)
                                      have q206 : x14_3 < (x1_40.length : Int) := of_decide_eq_true (by first | (with_reducible assumption) | assumption)
                                      obtain ⟨ad206, e206, hx206_0⟩ := Kd.at_int (Kd.V_reads' HO_1.out).2.2 x14_3 p206 q206
                                      cases e206
                                      replace p206 := eq_true p206
                                      replace q206 := eq_true q206
                                      have p207 : 0 ≤ ((ji49) : Int) := of_decide_eq_true (by first | (with_reducible assumption) | assumption)
                                      have q207 : (ji49) < (x1_40.length : Int) := of_decide_eq_true (by first | (with_reducible assumption) | assumption)
                                      obtain ⟨ad207, e207, hx207_0⟩ := Kd.at_int (Kd.V_reads' HO_1.out).2.2 (ji49) p207 q207
                                      obtain rfl : ad206 = ad207 := (by injection e207)
                                      replace p207 := eq_true p207
                                      replace q207 := eq_true q207
                                      go_wp2
                                      repeat (go_quiet (fail); try go_wp2)
                                      go_ret2
                                      exact ⟨by first | rfl | (simp [errW_none, errW_some] <;> rfl) | (simp only [← hji49]; first | rfl | (simp [errW_none, errW_some] <;> rfl)) | (simp [*, errW_none, errW_some] <;> rfl), by repeat (first | (with_reducible first | exact HB.out | apply below_alloc | apply pw_below_drewN | apply below_drew1) | exact HB.out)⟩
                                    · rw [if_neg c56] at H
                                      have c56b0 : decide ((Go.bits .or .i64 (wrap64 ((wrap64 (rd x1_40 x14_3)) * 256)) (wrap64 (rd x1_40 (ji49)))) ≤ 65007) = false := decide_eq_false c56
                                      clear c56
                                      by_cases c58 : (Go.bits .or .i64 (wrap64 ((wrap64 (rd x1_40 x14_3)) * 256)) (wrap64 (rd x1_40 (ji49)))) ≥ 65534
                                      · rw [if_pos c58] at H
                                        have c58b0 : decide (65534 ≤ (Go.bits .or .i64 (wrap64 ((wrap64 (rd x1_40 x14_3)) * 256)) (wrap64 (rd x1_40 (ji49))))) = true := decide_eq_true c58
                                        clear c58
                                        simp only [Option.some.injEq, Prod.mk.injEq] at H
                                        obtain ⟨rfl, rfl⟩ := H
                                        obtain ⟨Ao59, co59, eo59⟩ := Kd.V_slice HO_1.out
                                        subst eo59
                                        have p206 : 0 ≤ (x14_3 : Int) := of_decide_eq_true (by first | (with_reducible assumption) | assumption)
                                        have q206 : x14_3 < (x1_40.length : Int) := of_decide_eq_true (by first | (with_reducible assumption) | assumption)
                                        obtain ⟨ad206, e206, hx206_0⟩ := Kd.at_int (Kd.V_reads' HO_1.out).2.2 x14_3 p206 q206
                                        cases e206
                                        replace p206 := eq_true p206
                                        replace q206 := eq_true q206
                                        have p207 : 0 ≤ ((ji49) : Int) := of_decide_eq_true (by first | (with_reducible assumption) | assumption)
                                        have q207 : (ji49) < (x1_40.length : Int) := of_decide_eq_true (by first | (with_reducible assumption) | assumption)
                                        obtain ⟨ad207, e207, hx207_0⟩ := Kd.at_int (Kd.V_reads' HO_1.out).2.2 (ji49) p207 q207
                                        obtain rfl : ad206 = ad207 := (by injection e207)
                                        replace p207 := eq_true p207
                                        replace q207 := eq_true q207
                                        go_wp2
                                        repeat (go_quiet (fail); try go_wp2)
                                        go_ret2
                                        exact ⟨by first | rfl | (simp [errW_none, errW_some] <;> rfl) | (simp only [← hji49]; first | rfl | (simp [errW_none, errW_some] <;> rfl)) | (simp [*, errW_none, errW_some] <;> rfl), by repeat (first | (with_reducible first | exact HB.out | apply below_alloc | apply pw_below_drewN | apply below_drew1) | exact HB.out)⟩
                                      · rw [if_neg c58] at H
                                        have c58b0 : decide (65534 ≤ (Go.bits .or .i64 (wrap64 ((wrap64 (rd x1_40 x14_3)) * 256)) (wrap64 (rd x1_40 (ji49))))) = false := decide_eq_false c58
                                        clear c58
                                        replace H := Option.bind_eq_some_iff.mp H
                                        obtain ⟨t208, A600, H⟩ := H
                                        replace H : (spec_Text.l2 k3 x1_40 t208 (wrap64 (x14_3 + 2))) = some (r1, r2) := H
                                        have A60 := Aside0.mk A600
                                        clear A600
                                        have H' := Aside0.mk H
                                        clear H
                                        obtain ⟨Ao61, co61, eo61⟩ := Kd.V_slice HO_1.out
                                        subst eo61
                                        have p206 : 0 ≤ (x14_3 : Int) := of_decide_eq_true (by first | (with_reducible assumption) | assumption)
                                        have q206 : x14_3 < (x1_40.length : Int) := of_decide_eq_true (by first | (with_reducible assumption) | assumption)
                                        obtain ⟨ad206, e206, hx206_0⟩ := Kd.at_int (Kd.V_reads' HO_1.out).2.2 x14_3 p206 q206
                                        cases e206
                                        replace p206 := eq_true p206
                                        replace q206 := eq_true q206
                                        have p207 : 0 ≤ ((ji49) : Int) := of_decide_eq_true (by first | (with_reducible assumption) | assumption)
                                        have q207 : (ji49) < (x1_40.length : Int) := of_decide_eq_true (by first | (with_reducible assumption) | assumption)
                                        obtain ⟨ad207, e207, hx207_0⟩ := Kd.at_int (Kd.V_reads' HO_1.out).2.2 (ji49) p207 q207
                                        obtain rfl : ad206 = ad207 := (by injection e207)
                                        replace p207 := eq_true p207
                                        replace q207 := eq_true q207
                                        obtain ⟨Ao62, co62, eo62⟩ := Kd.R_slice HO_6.out
                                        subst eo62
                                        go_wp2_with (first | (go_at_call 14; (with_reducible refine (spec_put.calls (fun k_ => some k_ = (.slice Ao62 x6_3.length co62 : Value).ownBlock) (.slice Ao62 x6_3.length co62) x6_3 (Go.bits .or .i64 (wrap64 ((wrap64 (rd x1_40 x14_3)) * 256)) (wrap64 (rd x1_40 (ji49)))) t208 w _ ?side1 ?side2 A60.out).mono ?_); (case side1 => repeat (first | (with_reducible first | exact HB.out | apply below_alloc | apply pw_below_drewN | apply below_drew1) | exact HB.out)); (case side2 => exact Kd.R_tight rfl HO_6.out); rintro e w63 ⟨v209, rfl, ho0, hb, hkp⟩; have n0_ := Aside0.mk (Kd.V_mono (ok' := fun k_ => (P1_ k_ ∨ w.heap.size ≤ k_) ∧ some k_ ≠ (v209 : Value).ownBlock) (Kd.V_keptB (HO_1.out) hkp (fun k_ hk_ hs_ => (hk_.2) hs_)) (fun k_ hk_ => ⟨hk_.1.1, fun e_ => Or.elim (ho0.1 k_ e_.symm) (fun hs_ => hk_.2.1 hs_) (fun hn_ => Nat.not_le.2 hk_.2.2 hn_)⟩)); have n1_ := Aside0.mk (Kd.R_mono (ok' := fun k_ => (w.heap.size ≤ k_)) ho0 (fun k_ hk_ => Or.elim hk_ (fun hs_ => (HO_6.out.1 k_ (hs_).symm)) (fun hn_ => (Nat.le_trans (below_size (by repeat (first | (with_reducible first | exact HB.out | apply below_alloc | apply pw_below_drewN | apply below_drew1) | exact HB.out))) hn_)))); have n2_ := Aside0.mk (hb); clear HO_1; clear HB; clear HO_6; have HO_1 := n0_; have HO210 := n1_; have HB := n2_; clear n0_ n1_ n2_; (try clear hb); (try clear hkp); (try clear ho0)))
                                        repeat (go_quiet (first | (go_at_call 14; (with_reducible refine (spec_put.calls (fun k_ => some k_ = (.slice Ao62 x6_3.length co62 : Value).ownBlock) (.slice Ao62 x6_3.length co62) x6_3 (Go.bits .or .i64 (wrap64 ((wrap64 (rd x1_40 x14_3)) * 256)) (wrap64 (rd x1_40 (ji49)))) t208 w _ ?side1 ?side2 A60.out).mono ?_); (case side1 => repeat (first | (with_reducible first | exact HB.out | apply below_alloc | apply pw_below_drewN | apply below_drew1) | exact HB.out)); (case side2 => exact Kd.R_tight rfl HO_6.out); rintro e w63 ⟨v209, rfl, ho0, hb, hkp⟩; have n0_ := Aside0.mk (Kd.V_mono (ok' := fun k_ => (P1_ k_ ∨ w.heap.size ≤ k_) ∧ some k_ ≠ (v209 : Value).ownBlock) (Kd.V_keptB (HO_1.out) hkp (fun k_ hk_ hs_ => (hk_.2) hs_)) (fun k_ hk_ => ⟨hk_.1.1, fun e_ => Or.elim (ho0.1 k_ e_.symm) (fun hs_ => hk_.2.1 hs_) (fun hn_ => Nat.not_le.2 hk_.2.2 hn_)⟩)); have n1_ := Aside0.mk (Kd.R_mono (ok' := fun k_ => (w.heap.size ≤ k_)) ho0 (fun k_ hk_ => Or.elim hk_ (fun hs_ => (HO_6.out.1 k_ (hs_).symm)) (fun hn_ => (Nat.le_trans (below_size (by repeat (first | (with_reducible first | exact HB.out | apply below_alloc | apply pw_below_drewN | apply below_drew1) | exact HB.out))) hn_)))); have n2_ := Aside0.mk (hb); clear HO_1; clear HB; clear HO_6; have HO_1 := n0_; have HO210 := n1_; have HB := n2_; clear n0_ n1_ n2_; (try clear hb); (try clear hkp); (try clear ho0))); try go_wp2_with (first | (go_at_call 14; (with_reducible refine (spec_put.calls (fun k_ => some k_ = (.slice Ao62 x6_3.length co62 : Value).ownBlock) (.slice Ao62 x6_3.length co62) x6_3 (Go.bits .or .i64 (wrap64 ((wrap64 (rd x1_40 x14_3)) * 256)) (wrap64 (rd x1_40 (ji49)))) t208 w _ ?side1 ?side2 A60.out).mono ?_); (case side1 => repeat (first | (with_reducible first | exact HB.out | apply below_alloc | apply pw_below_drewN | apply below_drew1) | exact HB.out)); (case side2 => exact Kd.R_tight rfl HO_6.out); rintro e w63 ⟨v209, rfl, ho0, hb, hkp⟩; have n0_ := Aside0.mk (Kd.V_mono (ok' := fun k_ => (P1_ k_ ∨ w.heap.size ≤ k_) ∧ some k_ ≠ (v209 : Value).ownBlock) (Kd.V_keptB (HO_1.out) hkp (fun k_ hk_ hs_ => (hk_.2) hs_)) (fun k_ hk_ => ⟨hk_.1.1, fun e_ => Or.elim (ho0.1 k_ e_.symm) (fun hs_ => hk_.2.1 hs_) (fun hn_ => Nat.not_le.2 hk_.2.2 hn_)⟩)); have n1_ := Aside0.mk (Kd.R_mono (ok' := fun k_ => (w.heap.size ≤ k_)) ho0 (fun k_ hk_ => Or.elim hk_ (fun hs_ => (HO_6.out.1 k_ (hs_).symm)) (fun hn_ => (Nat.le_trans (below_size (by repeat (first | (with_reducible first | exact HB.out | apply below_alloc | apply pw_below_drewN | apply below_drew1) | exact HB.out))) hn_)))); have n2_ := Aside0.mk (hb); clear HO_1; clear HB; clear HO_6; have HO_1 := n0_; have HO210 := n1_; have HB := n2_; clear n0_ n1_ n2_; (try clear hb); (try clear hkp); (try clear ho0))))
                                        go_roundg k3
                                        case measure => have := HJ29.out; have := HJ40.out; have := HK3.out; omega
                                        case rel => exact ⟨(t208), (wrap64 (x14_3 + 2)), (by first | rfl | (simp; done) | (simp [*]; done)), H', ⟨by have := HJ29.out; have := HJ40.out; have := HK3.out; omega⟩, ⟨by (with_reducible repeat (first | apply Kd.V_alloc | apply Kd.V_drewN | apply Kd.V_drew)); exact HO_1.out⟩, ⟨by (with_reducible repeat (first | apply Kd.R_alloc | apply Kd.R_drewN | apply Kd.R_drew)); exact HO210.out⟩, ⟨by repeat (first | (with_reducible first | exact HB.out | apply below_alloc | apply pw_below_drewN | apply below_drew1) | exact HB.out)⟩⟩
                                  · rw [if_neg c55] at H
                                    have c55b0 : decide (64976 ≤ (Go.bits .or .i64 (wrap64 ((wrap64 (rd x1_40 x14_3)) * 256)) (wrap64 (rd x1_40 (ji49))))) = false := decide_eq_false c55
                                    clear c55
                                    by_cases c64 : (Go.bits .or .i64 (wrap64 ((wrap64 (rd x1_40 x14_3)) * 256)) (wrap64 (rd x1_40 (ji49)))) ≥ 65534
                                    · rw [if_pos c64] at H
                                      have c64b0 : decide (65534 ≤ (Go.bits .or .i64 (wrap64 ((wrap64 (rd x1_40 x14_3)) * 256)) (wrap64 (rd x1_40 (ji49))))) = true := decide_eq_true c64
                                      clear c64
                                      simp only [Option.some.injEq, Prod.mk.injEq] at H
                                      obtain ⟨rfl, rfl⟩ := H
                                      obtain ⟨Ao65, co65, eo65⟩ := Kd.V_slice HO_1.out
                                      subst eo65
                                      have p206 : 0 ≤ (x14_3 : Int) := of_decide_eq_true (by first | (with_reducible assumption) | assumption)
                                      have q206 : x14_3 < (x1_40.length : Int) := of_decide_eq_true (by first | (with_reducible assumption) | assumption)
                                      obtain ⟨ad206, e206, hx206_0⟩ := Kd.at_int (Kd.V_reads' HO_1.out).2.2 x14_3 p206 q206
                                      cases e206
                                      replace p206 := eq_true p206
                                      replace q206 := eq_true q206
                                      have p207 : 0 ≤ ((ji49) : Int) := of_decide_eq_true (by first | (with_reducible assumption) | assumption)
                                      have q207 : (ji49) < (x1_40.length : Int) := of_decide_eq_true (by first | (with_reducible assumption) | assumption)
                                      obtain ⟨ad207, e207, hx207_0⟩ := Kd.at_int (Kd.V_reads' HO_1.out).2.2 (ji49) p207 q207
                                      obtain rfl : ad206 = ad207 := (by injection e207)
                                      replace p207 := eq_true p207
                                      replace q207 := eq_true q207
                                      go_wp2
                                      repeat (go_quiet (fail); try go_wp2)
                                      go_ret2
                                      exact ⟨by first | rfl | (simp [errW_none, errW_some] <;> rfl) | (simp only [← hji49]; first | rfl | (simp [errW_none, errW_some] <;> rfl)) | (simp [*, errW_none, errW_some] <;> rfl), by repeat (first | (with_reducible first | exact HB.out | apply below_alloc | apply pw_below_drewN | apply below_drew1) | exact HB.out)⟩
                                    · rw [if_neg c64] at H
                                      have c64b0 : decide (65534 ≤ (Go.bits .or .i64 (wrap64 ((wrap64 (rd x1_40 x14_3)) * 256)) (wrap64 (rd x1_40 (ji49))))) = false := decide_eq_false c64
                                      clear c64
                                      replace H := Option.bind_eq_some_iff.mp H
                                      obtain ⟨t211, A660, H⟩ := H
                                      replace H : (spec_Text.l2 k3 x1_40 t211 (wrap64 (x14_3 + 2))) = some (r1, r2) := H
                                      have A66 := Aside0.mk A660
                                      clear A660
                                      have H' := Aside0.mk H
                                      clear H
                                      obtain ⟨Ao67, co67, eo67⟩ := Kd.V_slice HO_1.out
                                      subst eo67
                                      have p206 : 0 ≤ (x14_3 : Int) := of_decide_eq_true (by first | (with_reducible assumption) | assumption)
                                      have q206 : x14_3 < (x1_40.length : Int) := of_decide_eq_true (by first | (with_reducible assumption) | assumption)
                                      obtain ⟨ad206, e206, hx206_0⟩ := Kd.at_int (Kd.V_reads' HO_1.out).2.2 x14_3 p206 q206
                                      cases e206
                                      replace p206 := eq_true p206
                                      replace q206 := eq_true q206
                                      have p207 : 0 ≤ ((ji49) : Int) := of_decide_eq_true (by first | (with_reducible assumption) | assumption)
                                      have q207 : (ji49) < (x1_40.length : Int) := of_decide_eq_true (by first | (with_reducible assumption) | assumption)
                                      obtain ⟨ad207, e207, hx207_0⟩ := Kd.at_int (Kd.V_reads' HO_1.out).2.2 (ji49) p207 q207
                                      obtain rfl : ad206 = ad207 := (by injection e207)
                                      replace p207 := eq_true p207
                                      replace q207 := eq_true q207
                                      obtain ⟨Ao68, co68, eo68⟩ := Kd.R_slice HO_6.out
                                      subst eo68
                                      go_wp2_with (first | (go_at_call 14; (with_reducible refine (spec_put.calls (fun k_ => some k_ = (.slice Ao68 x6_3.length co68 : Value).ownBlock) (.slice Ao68 x6_3.length co68) x6_3 (Go.bits .or .i64 (wrap64 ((wrap64 (rd x1_40 x14_3)) * 256)) (wrap64 (rd x1_40 (ji49)))) t211 w _ ?side1 ?side2 A66.out).mono ?_); (case side1 => repeat (first | (with_reducible first | exact HB.out | apply below_alloc | apply pw_below_drewN | apply below_drew1) | exact HB.out)); (case side2 => exact Kd.R_tight rfl HO_6.out); rintro e w69 ⟨v212, rfl, ho0, hb, hkp⟩; have n0_ := Aside0.mk (Kd.V_mono (ok' := fun k_ => (P1_ k_ ∨ w.heap.size ≤ k_) ∧ some k_ ≠ (v212 : Value).ownBlock) (Kd.V_keptB (HO_1.out) hkp (fun k_ hk_ hs_ => (hk_.2) hs_)) (fun k_ hk_ => ⟨hk_.1.1, fun e_ => Or.elim (ho0.1 k_ e_.symm) (fun hs_ => hk_.2.1 hs_) (fun hn_ => Nat.not_le.2 hk_.2.2 hn_)⟩)); have n1_ := Aside0.mk (Kd.R_mono (ok' := fun k_ => (w.heap.size ≤ k_)) ho0 (fun k_ hk_ => Or.elim hk_ (fun hs_ => (HO_6.out.1 k_ (hs_).symm)) (fun hn_ => (Nat.le_trans (below_size (by repeat (first | (with_reducible first | exact HB.out | apply below_alloc | apply pw_below_drewN | apply below_drew1) | exact HB.out))) hn_)))); have n2_ := Aside0.mk (hb); clear HO_1; clear HB; clear HO_6; have HO_1 := n0_; have HO213 := n1_; have HB := n2_; clear n0_ n1_ n2_; (try clear hb); (try clear hkp); (try clear ho0)))
                                      repeat (go_quiet (first | (go_at_call 14; (with_reducible refine (spec_put.calls (fun k_ => some k_ = (.slice Ao68 x6_3.length co68 : Value).ownBlock) (.slice Ao68 x6_3.length co68) x6_3 (Go.bits .or .i64 (wrap64 ((wrap64 (rd x1_40 x14_3)) * 256)) (wrap64 (rd x1_40 (ji49)))) t211 w _ ?side1 ?side2 A66.out).mono ?_); (case side1 => repeat (first | (with_reducible first | exact HB.out | apply below_alloc | apply pw_below_drewN | apply below_drew1) | exact HB.out)); (case side2 => exact Kd.R_tight rfl HO_6.out); rintro e w69 ⟨v212, rfl, ho0, hb, hkp⟩; have n0_ := Aside0.mk (Kd.V_mono (ok' := fun k_ => (P1_ k_ ∨ w.heap.size ≤ k_) ∧ some k_ ≠ (v212 : Value).ownBlock) (Kd.V_keptB (HO_1.out) hkp (fun k_ hk_ hs_ => (hk_.2) hs_)) (fun k_ hk_ => ⟨hk_.1.1, fun e_ => Or.elim (ho0.1 k_ e_.symm) (fun hs_ => hk_.2.1 hs_) (fun hn_ => Nat.not_le.2 hk_.2.2 hn_)⟩)); have n1_ := Aside0.mk (Kd.R_mono (ok' := fun k_ => (w.heap.size ≤ k_)) ho0 (fun k_ hk_ => Or.elim hk_ (fun hs_ => (HO_6.out.1 k_ (hs_).symm)) (fun hn_ => (Nat.le_trans (below_size (by repeat (first | (with_reducible first | exact HB.out | apply below_alloc | apply pw_below_drewN | apply below_drew1) | exact HB.out))) hn_)))); have n2_ := Aside0.mk (hb); clear HO_1; clear HB; clear HO_6; have HO_1 := n0_; have HO213 := n1_; have HB := n2_; clear n0_ n1_ n2_; (try clear hb); (try clear hkp); (try clear ho0))); try go_wp2_with (first | (go_at_call 14; (with_reducible refine (spec_put.calls (fun k_ => some k_ = (.slice Ao68 x6_3.length co68 : Value).ownBlock) (.slice Ao68 x6_3.length co68) x6_3 (Go.bits .or .i64 (wrap64 ((wrap64 (rd x1_40 x14_3)) * 256)) (wrap64 (rd x1_40 (ji49)))) t211 w _ ?side1 ?side2 A66.out).mono ?_); (case side1 => repeat (first | (with_reducible first | exact HB.out | apply below_alloc | apply pw_below_drewN | apply below_drew1) | exact HB.out)); (case side2 => exact Kd.R_tight rfl HO_6.out); rintro e w69 ⟨v212, rfl, ho0, hb, hkp⟩; have n0_ := Aside0.mk (Kd.V_mono (ok' := fun k_ => (P1_ k_ ∨ w.heap.size ≤ k_) ∧ some k_ ≠ (v212 : Value).ownBlock) (Kd.V_keptB (HO_1.out) hkp (fun k_ hk_ hs_ => (hk_.2) hs_)) (fun k_ hk_ => ⟨hk_.1.1, fun e_ => Or.elim (ho0.1 k_ e_.symm) (fun hs_ => hk_.2.1 hs_) (fun hn_ => Nat.not_le.2 hk_.2.2 hn_)⟩)); have n1_ := Aside0.mk (Kd.R_mono (ok' := fun k_ => (w.heap.size ≤ k_)) ho0 (fun k_ hk_ => Or.elim hk_ (fun hs_ => (HO_6.out.1 k_ (hs_).symm)) (fun hn_ => (Nat.le_trans (below_size (by repeat (first | (with_reducible first | exact HB.out | apply below_alloc | apply pw_below_drewN | apply below_drew1) | exact HB.out))) hn_)))); have n2_ := Aside0.mk (hb); clear HO_1; clear HB; clear HO_6; have HO_1 := n0_; have HO213 := n1_; have HB := n2_; clear n0_ n1_ n2_; (try clear hb); (try clear hkp); (try clear ho0))))
                                      go_roundg k3
                                      case measure => have := HJ29.out; have := HJ40.out; have := HK3.out; omega
                                      case rel => exact ⟨(t211), (wrap64 (x14_3 + 2)), (by first | rfl | (simp; done) | (simp [*]; done)), H', ⟨by have := HJ29.out; have := HJ40.out; have := HK3.out; omega⟩, ⟨by (with_reducible repeat (first | apply Kd.V_alloc | apply Kd.V_drewN | apply Kd.V_drew)); exact HO_1.out⟩, ⟨by (with_reducible repeat (first | apply Kd.R_alloc | apply Kd.R_drewN | apply Kd.R_drew)); exact HO213.out⟩, ⟨by repeat (first | (with_reducible first | exact HB.out | apply below_alloc | apply pw_below_drewN | apply below_drew1) | exact HB.out)⟩⟩
                              · rw [if_neg c52] at H
                                have c52b0 : decide (55296 ≤ (Go.bits .or .i64 (wrap64 ((wrap64 (rd x1_40 x14_3)) * 256)) (wrap64 (rd x1_40 (ji49))))) = false := decide_eq_false c52
                                clear c52
                                by_cases c70 : (Go.bits .or .i64 (wrap64 ((wrap64 (rd x1_40 x14_3)) * 256)) (wrap64 (rd x1_40 (ji49)))) ≥ 64976
                                · rw [if_pos c70] at H
                                  have c70b0 : decide (64976 ≤ (Go.bits .or .i64 (wrap64 ((wrap64 (rd x1_40 x14_3)) * 256)) (wrap64 (rd x1_40 (ji49))))) = true := decide_eq_true c70
                                  clear c70
                                  by_cases c71 : (Go.bits .or .i64 (wrap64 ((wrap64 (rd x1_40 x14_3)) * 256)) (wrap64 (rd x1_40 (ji49)))) ≤ 65007
                                  · rw [if_pos c71] at H
                                    have c71b0 : decide ((Go.bits .or .i64 (wrap64 ((wrap64 (rd x1_40 x14_3)) * 256)) (wrap64 (rd x1_40 (ji49)))) ≤ 65007) = true := decide_eq_true c71
                                    clear c71
                                    simp only [Option.some.injEq, Prod.mk.injEq] at H
                                    obtain ⟨rfl, rfl⟩ := H
                                    obtain ⟨Ao72, co72, eo72⟩ := Kd.V_slice HO_1.out
                                    subst eo72
                                    have p206 : 0 ≤ (x14_3 : Int) := of_decide_eq_true (by first | (with_reducible assumption) | assumption)
                                    have q206 : x14_3 < (x1_40.length : Int) := of_decide_eq_true (by first | (with_reducible assumption) | assumption)
                                    obtain ⟨ad206, e206, hx206_0⟩ := Kd.at_int (Kd.V_reads' HO_1.out).2.2 x14_3 p206 q206
                                    cases e206
                                    replace p206 := eq_true p206
                                    replace q206 := eq_true q206
                                    have p207 : 0 ≤ ((ji49) : Int) := of_decide_eq_true (by first | (with_reducible assumption) | assumption)
                                    have q207 : (ji49) < (x1_40.length : Int) := of_decide_eq_true (by first | (with_reducible assumption) | assumption)
                                    obtain ⟨ad207, e207, hx207_0⟩ := Kd.at_int (Kd.V_reads' HO_1.out).2.2 (ji49) p207 q207
                                    obtain rfl : ad206 = ad207 := (by injection e207)
                                    replace p207 := eq_true p207
                                    replace q207 := eq_true q207
                                    go_wp2
                                    repeat (go_quiet (fail); try go_wp2)
                                    go_ret2
                                    exact ⟨by first | rfl | (simp [errW_none, errW_some] <;> rfl) | (simp only [← hji49]; first | rfl | (simp [errW_none, errW_some] <;> rfl)) | (simp [*, errW_none, errW_some] <;> rfl), by repeat (first | (with_reducible first | exact HB.out | apply below_alloc | apply pw_below_drewN | apply below_drew1) | exact HB.out)⟩
                                  · rw [if_neg c71] at H
                                    have c71b0 : decide ((Go.bits .or .i64 (wrap64 ((wrap64 (rd x1_40 x14_3)) * 256)) (wrap64 (rd x1_40 (ji49)))) ≤ 65007) = false := decide_eq_false c71
                                    clear c71
                                    by_cases c73 : (Go.bits .or .i64 (wrap64 ((wrap64 (rd x1_40 x14_3)) * 256)) (wrap64 (rd x1_40 (ji49)))) ≥ 65534
                                    · rw [if_pos c73] at H
                                      have c73b0 : decide (65534 ≤ (Go.bits .or .i64 (wrap64 ((wrap64 (rd x1_40 x14_3)) * 256)) (wrap64 (rd x1_40 (ji49))))) = true := decide_eq_true c73
                                      clear c73
                                      simp only [Option.some.injEq, Prod.mk.injEq] at H
                                      obtain ⟨rfl, rfl⟩ := H
                                      obtain ⟨Ao74, co74, eo74⟩ := Kd.V_slice HO_1.out
                                      subst eo74
                                      have p206 : 0 ≤ (x14_3 : Int) := of_decide_eq_true (by first | (with_reducible assumption) | assumption)
                                      have q206 : x14_3 < (x1_40.length : Int) := of_decide_eq_true (by first | (with_reducible assumption) | assumption)
                                      obtain ⟨ad206, e206, hx206_0⟩ := Kd.at_int (Kd.V_reads' HO_1.out).2.2 x14_3 p206 q206
                                      cases e206
                                      replace p206 := eq_true p206
                                      replace q206 := eq_true q206
                                      have p207 : 0 ≤ ((ji49) : Int) := of_decide_eq_true (by first | (with_reducible assumption) | assumption)
                                      have q207 : (ji49) < (x1_40.length : Int) := of_decide_eq_true (by first | (with_reducible assumption) | assumption)
                                      obtain ⟨ad207, e207, hx207_0⟩ := Kd.at_int (Kd.V_reads' HO_1.out).2.2 (ji49) p207 q207
                                      obtain rfl : ad206 = ad207 := (by injection e207)
                                      replace p207 := eq_true p207
                                      replace q207 := eq_true q207
                                      go_wp2
                                      repeat (go_quiet (fail); try go_wp2)
                                      go_ret2
                                      exact ⟨by first | rfl | (simp [errW_none, errW_some] <;> rfl) | (simp only [← hji49]; first | rfl | (simp [errW_none, errW_some] <;> rfl)) | (simp [*, errW_none, errW_some] <;> rfl), by repeat (first | (with_reducible first | exact HB.out | apply below_alloc | apply pw_below_drewN | apply below_drew1) | exact HB.out)⟩
                                    · rw [if_neg c73] at H
                                      have c73b0 : decide (65534 ≤ (Go.bits .or .i64 (wrap64 ((wrap64 (rd x1_40 x14_3)) * 256)) (wrap64 (rd x1_40 (ji49))))) = false := decide_eq_false c73
                                      clear c73
                                      replace H := Option.bind_eq_some_iff.mp H
                                      obtain ⟨t214, A750, H⟩ := H
                                      replace H : (spec_Text.l2 k3 x1_40 t214 (wrap64 (x14_3 + 2))) = some (r1, r2) := H
                                      have A75 := Aside0.mk A750
                                      clear A750
                                      have H' := Aside0.mk H
                                      clear H
                                      obtain ⟨Ao76, co76, eo76⟩ := Kd.V_slice HO_1.out
                                      subst eo76
                                      have p206 : 0 ≤ (x14_3 : Int) := of_decide_eq_true (by first | (with_reducible assumption) | assumption)
                                      have q206 : x14_3 < (x1_40.length : Int) := of_decide_eq_true (by first | (with_reducible assumption) | assumption)
                                      obtain ⟨ad206, e206, hx206_0⟩ := Kd.at_int (Kd.V_reads' HO_1.out).2.2 x14_3 p206 q206
                                      cases e206
                                      replace p206 := eq_true p206
                                      replace q206 := eq_true q206
                                      have p207 : 0 ≤ ((ji49) : Int) := of_decide_eq_true (by first | (with_reducible assumption) | assumption)
                                      have q207 : (ji49) < (x1_40.length : Int) := of_decide_eq_true (by first | (with_reducible assumption) | assumption)
                                      obtain ⟨ad207, e207, hx207_0⟩ := Kd.at_int (Kd.V_reads' HO_1.out).2.2 (ji49) p207 q207
                                      obtain rfl : ad206 = ad207 := (by injection e207)
                                      replace p207 := eq_true p207
                                      replace q207 := eq_true q207
                                      obtain ⟨Ao77, co77, eo77⟩ := Kd.R_slice HO_6.out
                                      subst eo77
                                      go_wp2_with (first | (go_at_call 14; (with_reducible refine (spec_put.calls (fun k_ => some k_ = (.slice Ao77 x6_3.length co77 : Value).ownBlock) (.slice Ao77 x6_3.length co77) x6_3 (Go.bits .or .i64 (wrap64 ((wrap64 (rd x1_40 x14_3)) * 256)) (wrap64 (rd x1_40 (ji49)))) t214 w _ ?side1 ?side2 A75.out).mono ?_); (case side1 => repeat (first | (with_reducible first | exact HB.out | apply below_alloc | apply pw_below_drewN | apply below_drew1) | exact HB.out)); (case side2 => exact Kd.R_tight rfl HO_6.out); rintro e w78 ⟨v215, rfl, ho0, hb, hkp⟩; have n0_ := Aside0.mk (Kd.V_mono (ok' := fun k_ => (P1_ k_ ∨ w.heap.size ≤ k_) ∧ some k_ ≠ (v215 : Value).ownBlock) (Kd.V_keptB (HO_1.out) hkp (fun k_ hk_ hs_ => (hk_.2) hs_)) (fun k_ hk_ => ⟨hk_.1.1, fun e_ => Or.elim (ho0.1 k_ e_.symm) (fun hs_ => hk_.2.1 hs_) (fun hn_ => Nat.not_le.2 hk_.2.2 hn_)⟩)); have n1_ := Aside0.mk (Kd.R_mono (ok' := fun k_ => (w.heap.size ≤ k_)) ho0 (fun k_ hk_ => Or.elim hk_ (fun hs_ => (HO_6.out.1 k_ (hs_).symm)) (fun hn_ => (Nat.le_trans (below_size (by repeat (first | (with_reducible first | exact HB.out | apply below_alloc | apply pw_below_drewN | apply below_drew1) | exact HB.out))) hn_)))); have n2_ := Aside0.mk (hb); clear HO_1; clear HB; clear HO_6; have HO_1 := n0_; have HO216 := n1_; have HB := n2_; clear n0_ n1_ n2_; (try clear hb); (try clear hkp); (try clear ho0)))
                                      repeat (go_quiet (first | (go_at_call 14; (with_reducible refine (spec_put.calls (fun k_ => some k_ = (.slice Ao77 x6_3.length co77 : Value).ownBlock) (.slice Ao77 x6_3.length co77) x6_3 (Go.bits .or .i64 (wrap64 ((wrap64 (rd x1_40 x14_3)) * 256)) (wrap64 (rd x1_40 (ji49)))) t214 w _ ?side1 ?side2 A75.out).mono ?_); (case side1 => repeat (first | (with_reducible first | exact HB.out | apply below_alloc | apply pw_below_drewN | apply below_drew1) | exact HB.out)); (case side2 => exact Kd.R_tight rfl HO_6.out); rintro e w78 ⟨v215, rfl, ho0, hb, hkp⟩; have n0_ := Aside0.mk (Kd.V_mono (ok' := fun k_ => (P1_ k_ ∨ w.heap.size ≤ k_) ∧ some k_ ≠ (v215 : Value).ownBlock) (Kd.V_keptB (HO_1.out) hkp (fun k_ hk_ hs_ => (hk_.2) hs_)) (fun k_ hk_ => ⟨hk_.1.1, fun e_ => Or.elim (ho0.1 k_ e_.symm) (fun hs_ => hk_.2.1 hs_) (fun hn_ => Nat.not_le.2 hk_.2.2 hn_)⟩)); have n1_ := Aside0.mk (Kd.R_mono (ok' := fun k_ => (w.heap.size ≤ k_)) ho0 (fun k_ hk_ => Or.elim hk_ (fun hs_ => (HO_6.out.1 k_ (hs_).symm)) (fun hn_ => (Nat.le_trans (below_size (by repeat (first | (with_reducible first | exact HB.out | apply below_alloc | apply pw_below_drewN | apply below_drew1) | exact HB.out))) hn_)))); have n2_ := Aside0.mk (hb); clear HO_1; clear HB; clear HO_6; have HO_1 := n0_; have HO216 := n1_; have HB := n2_; clear n0_ n1_ n2_; (try clear hb); (try clear hkp); (try clear ho0))); try go_wp2_with (first | (go_at_call 14; (with_reducible refine (spec_put.calls (fun k_ => some k_ = (.slice Ao77 x6_3.length co77 : Value).ownBlock) (.slice Ao77 x6_3.length co77) x6_3 (Go.bits .or .i64 (wrap64 ((wrap64 (rd x1_40 x14_3)) * 256)) (wrap64 (rd x1_40 (ji49)))) t214 w _ ?side1 ?side2 A75.out).mono ?_); (case side1 => repeat (first | (with_reducible first | exact HB.out | apply below_alloc | apply pw_below_drewN | apply below_drew1) | exact HB.out)); (case side2 => exact Kd.R_tight rfl HO_6.out); rintro e w78 ⟨v215, rfl, ho0, hb, hkp⟩; have n0_ := Aside0.mk (Kd.V_mono (ok' := fun k_ => (P1_ k_ ∨ w.heap.size ≤ k_) ∧ some k_ ≠ (v215 : Value).ownBlock) (Kd.V_keptB (HO_1.out) hkp (fun k_ hk_ hs_ => (hk_.2) hs_)) (fun k_ hk_ => ⟨hk_.1.1, fun e_ => Or.elim (ho0.1 k_ e_.symm) (fun hs_ => hk_.2.1 hs_) (fun hn_ => Nat.not_le.2 hk_.2.2 hn_)⟩)); have n1_ := Aside0.mk (Kd.R_mono (ok' := fun k_ => (w.heap.size ≤ k_)) ho0 (fun k_ hk_ => Or.elim hk_ (fun hs_ => (HO_6.out.1 k_ (hs_).symm)) (fun hn_ => (Nat.le_trans (below_size (by repeat (first | (with_reducible first | exact HB.out | apply below_alloc | apply pw_below_drewN | apply below_drew1) | exact HB.out))) hn_)))); have n2_ := Aside0.mk (hb); clear HO_1; clear HB; clear HO_6; have HO_1 := n0_; have HO216 := n1_; have HB := n2_; clear n0_ n1_ n2_; (try clear hb); (try clear hkp); (try clear ho0))))
                                      go_roundg k3
                                      case measure => have := HJ29.out; have := HJ40.out; have := HK3.out; omega
                                      case rel => exact ⟨(t214), (wrap64 (x14_3 + 2)), (by first | rfl | (simp; done) | (simp [*]; done)), H', ⟨by have := HJ29.out; have := HJ40.out; have := HK3.out; omega⟩, ⟨by (with_reducible repeat (first | apply Kd.V_alloc | apply Kd.V_drewN | apply Kd.V_drew)); exact HO_1.out⟩, ⟨by (with_reducible repeat (first | apply Kd.R_alloc | apply Kd.R_drewN | apply Kd.R_drew)); exact HO216.out⟩, ⟨by repeat (first | (with_reducible first | exact HB.out | apply below_alloc | apply pw_below_drewN | apply below_drew1) | exact HB.out)⟩⟩
                                · rw [if_neg c70] at H
                                  have c70b0 : decide (64976 ≤ (Go.bits .or .i64 (wrap64 ((wrap64 (rd x1_40 x14_3)) * 256)) (wrap64 (rd x1_40 (ji49))))) = false := decide_eq_false c70
                                  clear c70
                                  by_cases c79 : (Go.bits .or .i64 (wrap64 ((wrap64 (rd x1_40 x14_3)) * 256)) (wrap64 (rd x1_40 (ji49)))) ≥ 65534
                                  · rw [if_pos c79] at H
                                    have c79b0 : decide (65534 ≤ (Go.bits .or .i64 (wrap64 ((wrap64 (rd x1_40 x14_3)) * 256)) (wrap64 (rd x1_40 (ji49))))) = true := decide_eq_true c79
                                    clear c79
                                    simp only [Option.some.injEq, Prod.mk.injEq] at H
                                    obtain ⟨rfl, rfl⟩ := H
                                    obtain ⟨Ao80, co80, eo80⟩ := Kd.V_slice HO_1.out
                                    subst eo80
                                    have p206 : 0 ≤ (x14_3 : Int) := of_decide_eq_true (by first | (with_reducible assumption) | assumption)
                                    have q206 : x14_3 < (x1_40.length : Int) := of_decide_eq_true (by first | (with_reducible assumption) | assumption)
                                    obtain ⟨ad206, e206, hx206_0⟩ := Kd.at_int (Kd.V_reads' HO_1.out).2.2 x14_3 p206 q206
                                    cases e206
                                    replace p206 := eq_true p206
                                    replace q206 := eq_true q206
                                    have p207 : 0 ≤ ((ji49) : Int) := of_decide_eq_true (by first | (with_reducible assumption) | assumption)
                                    have q207 : (ji49) < (x1_40.length : Int) := of_decide_eq_true (by first | (with_reducible assumption) | assumption)
                                    obtain ⟨ad207, e207, hx207_0⟩ := Kd.at_int (Kd.V_reads' HO_1.out).2.2 (ji49) p207 q207
                                    obtain rfl : ad206 = ad207 := (by injection e207)
                                    replace p207 := eq_true p207
                                    replace q207 := eq_true q207
                                    go_wp2
                                    repeat (go_quiet (fail); try go_wp2)
                                    go_ret2
                                    exact ⟨by first | rfl | (simp [errW_none, errW_some] <;> rfl) | (simp only [← hji49]; first | rfl | (simp [errW_none, errW_some] <;> rfl)) | (simp [*, errW_none, errW_some] <;> rfl), by repeat (first | (with_reducible first | exact HB.out | apply below_alloc | apply pw_below_drewN | apply below_drew1) | exact HB.out)⟩
                                  · rw [if_neg c79] at H
                                    have c79b0 : decide (65534 ≤ (Go.bits .or .i64 (wrap64 ((wrap64 (rd x1_40 x14_3)) * 256)) (wrap64 (rd x1_40 (ji49))))) = false := decide_eq_false c79
                                    clear c79
                                    replace H := Option.bind_eq_some_iff.mp H
                                    obtain ⟨t217, A810, H⟩ := H
                                    replace H : (spec_Text.l2 k3 x1_40 t217 (wrap64 (x14_3 + 2))) = some (r1, r2) := H
                                    have A81 := Aside0.mk A810
                                    clear A810
                                    have H' := Aside0.mk H
                                    clear H
                                    obtain ⟨Ao82, co82, eo82⟩ := Kd.V_slice HO_1.out
                                    subst eo82
                                    have p206 : 0 ≤ (x14_3 : Int) := of_decide_eq_true (by first | (with_reducible assumption) | assumption)
                                    have q206 : x14_3 < (x1_40.length : Int) := of_decide_eq_true (by first | (with_reducible assumption) | assumption)
                                    obtain ⟨ad206, e206, hx206_0⟩ := Kd.at_int (Kd.V_reads' HO_1.out).2.2 x14_3 p206 q206
                                    cases e206
                                    replace p206 := eq_true p206
                                    replace q206 := eq_true q206
                                    have p207 : 0 ≤ ((ji49) : Int) := of_decide_eq_true (by first | (with_reducible assumption) | assumption)
                                    have q207 : (ji49) < (x1_40.length : Int) := of_decide_eq_true (by first | (with_reducible assumption) | assumption)
                                    obtain ⟨ad207, e207, hx207_0⟩ := Kd.at_int (Kd.V_reads' HO_1.out).2.2 (ji49) p207 q207
                                    obtain rfl : ad206 = ad207 := (by injection e207)
                                    replace p207 := eq_true p207
                                    replace q207 := eq_true q207
                                    obtain ⟨Ao83, co83, eo83⟩ := Kd.R_slice HO_6.out
                                    subst eo83
                                    go_wp2_with (first | (go_at_call 14; (with_reducible refine (spec_put.calls (fun k_ => some k_ = (.slice Ao83 x6_3.length co83 : Value).ownBlock) (.slice Ao83 x6_3.length co83) x6_3 (Go.bits .or .i64 (wrap64 ((wrap64 (rd x1_40 x14_3)) * 256)) (wrap64 (rd x1_40 (ji49)))) t217 w _ ?side1 ?side2 A81.out).mono ?_); (case side1 => repeat (first | (with_reducible first | exact HB.out | apply below_alloc | apply pw_below_drewN | apply below_drew1) | exact HB.out)); (case side2 => exact Kd.R_tight rfl HO_6.out); rintro e w84 ⟨v218, rfl, ho0, hb, hkp⟩; have n0_ := Aside0.mk (Kd.V_mono (ok' := fun k_ => (P1_ k_ ∨ w.heap.size ≤ k_) ∧ some k_ ≠ (v218 : Value).ownBlock) (Kd.V_keptB (HO_1.out) hkp (fun k_ hk_ hs_ => (hk_.2) hs_)) (fun k_ hk_ => ⟨hk_.1.1, fun e_ => Or.elim (ho0.1 k_ e_.symm) (fun hs_ => hk_.2.1 hs_) (fun hn_ => Nat.not_le.2 hk_.2.2 hn_)⟩)); have n1_ := Aside0.mk (Kd.R_mono (ok' := fun k_ => (w.heap.size ≤ k_)) ho0 (fun k_ hk_ => Or.elim hk_ (fun hs_ => (HO_6.out.1 k_ (hs_).symm)) (fun hn_ => (Nat.le_trans (below_size (by repeat (first | (with_reducible first | exact HB.out | apply below_alloc | apply pw_below_drewN | apply below_drew1) | exact HB.out))) hn_)))); have n2_ := Aside0.mk (hb); clear HO_1; clear HB; clear HO_6; have HO_1 := n0_; have HO219 := n1_; have HB := n2_; clear n0_ n1_ n2_; (try clear hb); (try clear hkp); (try clear ho0)))
                                    repeat (go_quiet (first | (go_at_call 14; (with_reducible refine (spec_put.calls (fun k_ => some k_ = (.slice Ao83 x6_3.length co83 : Value).ownBlock) (.slice Ao83 x6_3.length co83) x6_3 (Go.bits .or .i64 (wrap64 ((wrap64 (rd x1_40 x14_3)) * 256)) (wrap64 (rd x1_40 (ji49)))) t217 w _ ?side1 ?side2 A81.out).mono ?_); (case side1 => repeat (first | (with_reducible first | exact HB.out | apply below_alloc | apply pw_below_drewN | apply below_drew1) | exact HB.out)); (case side2 => exact Kd.R_tight rfl HO_6.out); rintro e w84 ⟨v218, rfl, ho0, hb, hkp⟩; have n0_ := Aside0.mk (Kd.V_mono (ok' := fun k_ => (P1_ k_ ∨ w.heap.size ≤ k_) ∧ some k_ ≠ (v218 : Value).ownBlock) (Kd.V_keptB (HO_1.out) hkp (fun k_ hk_ hs_ => (hk_.2) hs_)) (fun k_ hk_ => ⟨hk_.1.1, fun e_ => Or.elim (ho0.1 k_ e_.symm) (fun hs_ => hk_.2.1 hs_) (fun hn_ => Nat.not_le.2 hk_.2.2 hn_)⟩)); have n1_ := Aside0.mk (Kd.R_mono (ok' := fun k_ => (w.heap.size ≤ k_)) ho0 (fun k_ hk_ => Or.elim hk_ (fun hs_ => (HO_6.out.1 k_ (hs_).symm)) (fun hn_ => (Nat.le_trans (below_size (by repeat (first | (with_reducible first | exact HB.out | apply below_alloc | apply pw_below_drewN | apply below_drew1) | exact HB.out))) hn_)))); have n2_ := Aside0.mk (hb); clear HO_1; clear HB; clear HO_6; have HO_1 := n0_; have HO219 := n1_; have HB := n2_; clear n0_ n1_ n2_; (try clear hb); (try clear hkp); (try clear ho0))); try go_wp2_with (first | (go_at_call 14; (with_reducible refine (spec_put.calls (fun k_ => some k_ = (.slice Ao83 x6_3.length co83 : Value).ownBlock) (.slice Ao83 x6_3.length co83) x6_3 (Go.bits .or .i64 (wrap64 ((wrap64 (rd x1_40 x14_3)) * 256)) (wrap64 (rd x1_40 (ji49)))) t217 w _ ?side1 ?side2 A81.out).mono ?_); (case side1 => repeat (first | (with_reducible first | exact HB.out | apply below_alloc | apply pw_below_drewN | apply below_drew1) | exact HB.out)); (case side2 => exact Kd.R_tight rfl HO_6.out); rintro e w84 ⟨v218, rfl, ho0, hb, hkp⟩; have n0_ := Aside0.mk (Kd.V_mono (ok' := fun k_ => (P1_ k_ ∨ w.heap.size ≤ k_) ∧ some k_ ≠ (v218 : Value).ownBlock) (Kd.V_keptB (HO_1.out) hkp (fun k_ hk_ hs_ => (hk_.2) hs_)) (fun k_ hk_ => ⟨hk_.1.1, fun e_ => Or.elim (ho0.1 k_ e_.symm) (fun hs_ => hk_.2.1 hs_) (fun hn_ => Nat.not_le.2 hk_.2.2 hn_)⟩)); have n1_ := Aside0.mk (Kd.R_mono (ok' := fun k_ => (w.heap.size ≤ k_)) ho0 (fun k_ hk_ => Or.elim hk_ (fun hs_ => (HO_6.out.1 k_ (hs_).symm)) (fun hn_ => (Nat.le_trans (below_size (by repeat (first | (with_reducible first | exact HB.out | apply below_alloc | apply pw_below_drewN | apply below_drew1) | exact HB.out))) hn_)))); have n2_ := Aside0.mk (hb); clear HO_1; clear HB; clear HO_6; have HO_1 := n0_; have HO219 := n1_; have HB := n2_; clear n0_ n1_ n2_; (try clear hb); (try clear hkp); (try clear ho0))))
                                    go_roundg k3
                                    case measure => have := HJ29.out; have := HJ40.out; have := HK3.out; omega
                                    case rel => exact ⟨(t217), (wrap64 (x14_3 + 2)), (by first | rfl | (simp; done) | (simp [*]; done)), H', ⟨by have := HJ29.out; have := HJ40.out; have := HK3.out; omega⟩, ⟨by (with_reducible repeat (first | apply Kd.V_alloc | apply Kd.V_drewN | apply Kd.V_drew)); exact HO_1.out⟩, ⟨by (with_reducible repeat (first | apply Kd.R_alloc | apply Kd.R_drewN | apply Kd.R_drew)); exact HO219.out⟩, ⟨by repeat (first | (with_reducible first | exact HB.out | apply below_alloc | apply pw_below_drewN | apply below_drew1) | exact HB.out)⟩⟩
                            · rw [if_neg c51] at H
                              exact absurd H (by simp)
                          · rw [if_neg c50] at H
                            exact absurd H (by simp)
                        · rw [if_neg c48] at H
                          exact absurd H (by simp)
                      · rw [if_neg c47] at H
                        have c47b0 : decide (x14_3 < (x1_40.length : Int)) = false := decide_eq_false c47
                        clear c47
                        simp only [Option.some.injEq, Prod.mk.injEq] at H
                        obtain ⟨rfl, rfl⟩ := H
                        obtain ⟨Ao85, co85, eo85⟩ := Kd.V_slice HO_1.out
                        subst eo85
                        have hcv86 := own_string (P := Tryd.prog) Tryd.underlying24 Tryd.underlying5 Tryd.underlying9 (Kd.own_of_R HO_6.out)
                        go_wp2
                        repeat (go_quiet (fail); try go_wp2)
                        go_ret2
                        exact ⟨by first | rfl | (simp [errW_none, errW_some] <;> rfl) | (simp [*, errW_none, errW_some] <;> rfl), by repeat (first | (with_reducible first | exact HB.out | apply below_alloc | apply pw_below_drewN | apply below_drew1) | exact HB.out)⟩
      · rw [if_neg c26] at H
        have c26b0 : (a0 == 5) = false := beq_eq_false_iff_ne.mpr c26
        have c26b1 : (a0 != 5) = true := bne_iff_ne.mpr c26
        have H' := Aside0.mk H
        clear H
        go_enter Tryd.func8, Tryd.ntmps8
        go_wp2_with (first | ((with_reducible refine gate_dst (N := 18) rfl ?_); refine Kd.R_lit (Kd.int .u8) _ 5 ?hg (N := 18) ?hd (xs := ([] : List Int)) (inner := []) (ok := fun _ => True) (okp := fun _ => True) ?hr ?hp (fun _ hk => hk) trivial (Below.refl _ _) (Nat.le_refl _) (by simp) ?_; (case hd => rfl); (case hg => rfl); (case hr => first | (go_simp; done) | (go_simp; rfl)); (case hp => exact (Reps.none _ _)); intro v185 w87 ho88 hb hg_ hnew_; clear hg_ hnew_; (first | rw [← Ny184.out] at ho88 | (simp only [Int.reduceToNat] at ho88; rw [← Ny184.out] at ho88)); have n0_ := Aside0.mk (Kd.V_elder' (by (with_reducible repeat (first | apply Kd.V_alloc | apply Kd.V_drewN | apply Kd.V_drew)); exact HO1.out) (Kd.R_base ho88) hb); have n1_ := Aside0.mk (Kd.R_lower (Kd.R_newM (M := fun k_ => (w.heap.size ≤ k_)) ho88 (below_size (by repeat (first | (with_reducible first | exact HB.out | apply below_alloc | apply pw_below_drewN | apply below_drew1) | exact HB.out))) (fun k_ h_ => h_)) (below_size (by repeat (first | (with_reducible first | exact HB.out | apply below_alloc | apply pw_below_drewN | apply below_drew1) | exact HB.out)))); have n2_ := Aside0.mk (below_step (by repeat (first | (with_reducible first | exact HB.out | apply below_alloc | apply pw_below_drewN | apply below_drew1) | exact HB.out)) hb); clear HO1; clear HB; have HO1 := n0_; have HO186 := n1_; have HB := n2_; clear n0_ n1_ n2_; clear hb ho88))
        repeat (go_quiet (first | ((with_reducible refine gate_dst (N := 18) rfl ?_); refine Kd.R_lit (Kd.int .u8) _ 5 ?hg (N := 18) ?hd (xs := ([] : List Int)) (inner := []) (ok := fun _ => True) (okp := fun _ => True) ?hr ?hp (fun _ hk => hk) trivial (Below.refl _ _) (Nat.le_refl _) (by simp) ?_; (case hd => rfl); (case hg => rfl); (case hr => first | (go_simp; done) | (go_simp; rfl)); (case hp => exact (Reps.none _ _)); intro v185 w87 ho88 hb hg_ hnew_; clear hg_ hnew_; (first | rw [← Ny184.out] at ho88 | (simp only [Int.reduceToNat] at ho88; rw [← Ny184.out] at ho88)); have n0_ := Aside0.mk (Kd.V_elder' (by (with_reducible repeat (first | apply Kd.V_alloc | apply Kd.V_drewN | apply Kd.V_drew)); exact HO1.out) (Kd.R_base ho88) hb); have n1_ := Aside0.mk (Kd.R_lower (Kd.R_newM (M := fun k_ => (w.heap.size ≤ k_)) ho88 (below_size (by repeat (first | (with_reducible first | exact HB.out | apply below_alloc | apply pw_below_drewN | apply below_drew1) | exact HB.out))) (fun k_ h_ => h_)) (below_size (by repeat (first | (with_reducible first | exact HB.out | apply below_alloc | apply pw_below_drewN | apply below_drew1) | exact HB.out)))); have n2_ := Aside0.mk (below_step (by repeat (first | (with_reducible first | exact HB.out | apply below_alloc | apply pw_below_drewN | apply below_drew1) | exact HB.out)) hb); clear HO1; clear HB; have HO1 := n0_; have HO186 := n1_; have HB := n2_; clear n0_ n1_ n2_; clear hb ho88)); try go_wp2_with (first | ((with_reducible refine gate_dst (N := 18) rfl ?_); refine Kd.R_lit (Kd.int .u8) _ 5 ?hg (N := 18) ?hd (xs := ([] : List Int)) (inner := []) (ok := fun _ => True) (okp := fun _ => True) ?hr ?hp (fun _ hk => hk) trivial (Below.refl _ _) (Nat.le_refl _) (by simp) ?_; (case hd => rfl); (case hg => rfl); (case hr => first | (go_simp; done) | (go_simp; rfl)); (case hp => exact (Reps.none _ _)); intro v185 w87 ho88 hb hg_ hnew_; clear hg_ hnew_; (first | rw [← Ny184.out] at ho88 | (simp only [Int.reduceToNat] at ho88; rw [← Ny184.out] at ho88)); have n0_ := Aside0.mk (Kd.V_elder' (by (with_reducible repeat (first | apply Kd.V_alloc | apply Kd.V_drewN | apply Kd.V_drew)); exact HO1.out) (Kd.R_base ho88) hb); have n1_ := Aside0.mk (Kd.R_lower (Kd.R_newM (M := fun k_ => (w.heap.size ≤ k_)) ho88 (below_size (by repeat (first | (with_reducible first | exact HB.out | apply below_alloc | apply pw_below_drewN | apply below_drew1) | exact HB.out))) (fun k_ h_ => h_)) (below_size (by repeat (first | (with_reducible first | exact HB.out | apply below_alloc | apply pw_below_drewN | apply below_drew1) | exact HB.out)))); have n2_ := Aside0.mk (below_step (by repeat (first | (with_reducible first | exact HB.out | apply below_alloc | apply pw_below_drewN | apply below_drew1) | exact HB.out)) hb); clear HO1; clear HB; have HO1 := n0_; have HO186 := n1_; have HB := n2_; clear n0_ n1_ n2_; clear hb ho88)))
        go_loopg [128] k (fun kq v128 w' => ∃ (x128_1 : Int), v128 = .int .i64 x128_1 ∧ Aside0 (spec_Text.l3 kq a0 l1 l1 (l1.length : Int) x128_1 = some (r1, r2)) ∧ Aside0 (kq ≤ k) ∧ Aside0 (Kd.V (Kd.int .u8) 5 w' w.heap.size (fun k_ => (P1_ k_ ∨ w.heap.size ≤ k_)) (.slice A1 l1.length c1) l1) ∧ Aside0 (Kd.V (Kd.int .u8) 5 w' w.heap.size (fun k_ => (P1_ k_ ∨ w.heap.size ≤ k_)) (.slice A1 l1.length c1) l1) ∧ Aside0 (Below w.heap.size w w'))
        case atStart => exact ⟨(0), (by first | rfl | (simp; done) | (simp [*]; done)), H', ⟨Nat.le_refl _⟩, ⟨by (with_reducible repeat (first | apply Kd.V_alloc | apply Kd.V_drewN | apply Kd.V_drew)); exact Kd.V_mono HO1.out (fun _ hk => hk.1)⟩, ⟨by (with_reducible repeat (first | apply Kd.V_alloc | apply Kd.V_drewN | apply Kd.V_drew)); exact Kd.V_mono HO1.out (fun _ hk => hk.1)⟩, ⟨by repeat (first | (with_reducible first | exact HB.out | apply below_alloc | apply pw_below_drewN | apply below_drew1) | exact HB.out)⟩⟩
        case round =>
          clear H'
          try clear c1
          try clear p1
          try clear q1
          try clear hx1
          try clear hcv1
          try clear c2
          try clear p2
          try clear q2
          try clear hx2
          try clear hcv2
          try clear c3
          try clear c3b0
          try clear c3b1
          try clear c4
          try clear q4
          try clear c5
          try clear c6
          try clear c6b0
          try clear p6
          try clear c7
          try clear c7b0
          try clear c8
          try clear c8b0
          try clear hcv8
          try clear hcv12
          try clear c13
          try clear c13b0
          try clear c13b1
          try clear c16
          try clear c16b0
          try clear c16b1
          try clear c18
          try clear p18
          try clear q18
          try clear hx18
          try clear c19
          try clear c19b0
          try clear c19b1
          try clear p19
          try clear q19
          try clear hx19
          try clear c20
          try clear c20b0
          try clear c20b1
          try clear p20
          try clear q20
          try clear hx20
          try clear c22
          try clear q22
          try clear hcv25
          try clear c26
          try clear c26b0
          try clear c26b1
          try clear c27
          try clear c27b0
          try clear c27b1
          try clear c33
          try clear c33b0
          try clear c33b1
          try clear c35
          try clear c35b0
          try clear c36
          try clear c36b0
          try clear c37
          try clear c37b0
          try clear c37b1
          try clear c39
          try clear c39b0
          try clear c40
          try clear c40b0
          try clear c42
          try clear c44
          try clear c44b0
          try clear c44b1
          try clear c45
          try clear c45b0
          try clear c45b1
          try clear q46
          try clear c47
          try clear c47b0
          try clear c48
          try clear c48b0
          try clear c50
          try clear c50b0
          try clear c51
          try clear c51b0
          try clear c52
          try clear c52b0
          try clear c53
          try clear c53b0
          try clear c55
          try clear c55b0
          try clear c56
          try clear c56b0
          try clear c58
          try clear c58b0
          try clear c64
          try clear c64b0
          try clear p64
          try clear c70
          try clear c70b0
          try clear c71
          try clear c71b0
          try clear c73
          try clear c73b0
          try clear c79
          try clear c79b0
          try clear hcv86
          try clear hx187_0
          try clear hx199_0
          try clear hx200_0
          try clear hx206_0
          try clear hx207_0
          try clear p1
          try clear p18
          try clear p187
          try clear p19
          try clear p199
          try clear p2
          try clear p20
          try clear p200
          try clear p206
          try clear p207
          try clear p6
          try clear q022
          try clear q1
          try clear q18
          try clear q187
          try clear q19
          try clear q199
          try clear q2
          try clear q20
          try clear q200
          try clear q206
          try clear q207
          try clear q22
          try clear q4
          try clear q46
          obtain ⟨x128_1, rfl, HA, HK1, HO_1, HO_126, HB⟩ := hrel
          cases gk with
          | zero => exact absurd HA.out (by simp [spec_Text.l3])
          | succ k1 =>
            have H := HA.out
            clear HA
            simp only [spec_Text.l3] at H
            by_cases c89 : x128_1 < (l1.length : Int)
            · rw [if_pos c89] at H
              have c89b0 : decide (x128_1 < (l1.length : Int)) = true := decide_eq_true c89
              clear c89
              by_cases c90 : 0 ≤ x128_1
              · rw [if_pos c90] at H
                have c90b0 : decide (0 ≤ x128_1) = true := decide_eq_true c90
                clear c90
                by_cases c91 : x128_1 < (l1.length : Int)
                · rw [if_pos c91] at H
                  have c91b0 : decide (x128_1 < (l1.length : Int)) = true := decide_eq_true c91
                  clear c91
                  replace H := Option.bind_eq_some_iff.mp H
                  obtain ⟨t221, A920, H⟩ := H
                  replace H : (if t221 = true then (spec_Text.l3 k1 a0 l1 l1 (l1.length : Int) (wrap64 (x128_1 + 1))) else (if a0 = 1 then (if (rd l1 x128_1) = 42 then (spec_Text.l3 k1 a0 l1 l1 (l1.length : Int) (wrap64 (x128_1 + 1))) else (if ((rd l1 x128_1) = 38) then (spec_Text.l3 k1 a0 l1 l1 (l1.length : Int) (wrap64 (x128_1 + 1))) else (some ((⟨#[]⟩ : ByteArray), false)))) else (some ((⟨#[]⟩ : ByteArray), false)))) = some (r1, r2) := H
                  have A92 := Aside0.mk A920
                  clear A920
                  by_cases c93 : t221 = true
                  · subst c93
                    have H1 : (spec_Text.l3 k1 a0 l1 l1 (l1.length : Int) (wrap64 (x128_1 + 1))) = some (r1, r2) := by rw [if_pos rfl] at H; exact H
                    clear H
                    have H := H1
                    clear H1
                    have H' := Aside0.mk H
                    clear H
                    have p220 : 0 ≤ (x128_1 : Int) := of_decide_eq_true (by first | (with_reducible assumption) | assumption)
                    have q220 : x128_1 < (l1.length : Int) := of_decide_eq_true (by first | (with_reducible assumption) | assumption)
                    obtain ⟨ad220, e220, hx220_0⟩ := Kd.at_int (Kd.V_reads' HO_126.out).2.2 x128_1 p220 q220
                    cases e220
                    replace p220 := eq_true p220
                    replace q220 := eq_true q220
                    go_wp2_with (first | (go_at_call 9; (with_reducible refine (spec_letter.calls a0 (rd l1 x128_1) true _ A92.out).mono ?_); rintro e w94 ⟨rfl, hb⟩; have n0_ := Aside0.mk (Kd.V_below (by (with_reducible repeat (first | apply Kd.V_alloc | apply Kd.V_drewN | apply Kd.V_drew)); exact HO_1.out) hb); have n1_ := Aside0.mk (Kd.V_below (by (with_reducible repeat (first | apply Kd.V_alloc | apply Kd.V_drewN | apply Kd.V_drew)); exact HO_126.out) hb); have n2_ := Aside0.mk (below_step (by repeat (first | (with_reducible first | exact HB.out | apply below_alloc | apply pw_below_drewN | apply below_drew1) | exact HB.out)) hb); clear HO_1; clear HO_126; clear HB; have HO_1 := n0_; have HO_126 := n1_; have HB := n2_; clear n0_ n1_ n2_; (try clear hb); (try clear hb2); (try clear hk); (try clear hi)))
                    repeat (go_quiet (first | (go_at_call 9; (with_reducible refine (spec_letter.calls a0 (rd l1 x128_1) true _ A92.out).mono ?_); rintro e w94 ⟨rfl, hb⟩; have n0_ := Aside0.mk (Kd.V_below (by (with_reducible repeat (first | apply Kd.V_alloc | apply Kd.V_drewN | apply Kd.V_drew)); exact HO_1.out) hb); have n1_ := Aside0.mk (Kd.V_below (by (with_reducible repeat (first | apply Kd.V_alloc | apply Kd.V_drewN | apply Kd.V_drew)); exact HO_126.out) hb); have n2_ := Aside0.mk (below_step (by repeat (first | (with_reducible first | exact HB.out | apply below_alloc | apply pw_below_drewN | apply below_drew1) | exact HB.out)) hb); clear HO_1; clear HO_126; clear HB; have HO_1 := n0_; have HO_126 := n1_; have HB := n2_; clear n0_ n1_ n2_; (try clear hb); (try clear hb2); (try clear hk); (try clear hi))); try go_wp2_with (first | (go_at_call 9; (with_reducible refine (spec_letter.calls a0 (rd l1 x128_1) true _ A92.out).mono ?_); rintro e w94 ⟨rfl, hb⟩; have n0_ := Aside0.mk (Kd.V_below (by (with_reducible repeat (first | apply Kd.V_alloc | apply Kd.V_drewN | apply Kd.V_drew)); exact HO_1.out) hb); have n1_ := Aside0.mk (Kd.V_below (by (with_reducible repeat (first | apply Kd.V_alloc | apply Kd.V_drewN | apply Kd.V_drew)); exact HO_126.out) hb); have n2_ := Aside0.mk (below_step (by repeat (first | (with_reducible first | exact HB.out | apply below_alloc | apply pw_below_drewN | apply below_drew1) | exact HB.out)) hb); clear HO_1; clear HO_126; clear HB; have HO_1 := n0_; have HO_126 := n1_; have HB := n2_; clear n0_ n1_ n2_; (try clear hb); (try clear hb2); (try clear hk); (try clear hi))))
                    go_roundg k1
                    case measure => have := HK1.out; omega
                    case rel => exact ⟨(wrap64 (x128_1 + 1)), (by first | rfl | (simp; done) | (simp [*]; done)), H', ⟨by have := HK1.out; omega⟩, ⟨by (with_reducible repeat (first | apply Kd.V_alloc | apply Kd.V_drewN | apply Kd.V_drew)); exact HO_1.out⟩, ⟨by (with_reducible repeat (first | apply Kd.V_alloc | apply Kd.V_drewN | apply Kd.V_drew)); exact HO_126.out⟩, ⟨by repeat (first | (with_reducible first | exact HB.out | apply below_alloc | apply pw_below_drewN | apply below_drew1) | exact HB.out)⟩⟩
                  · replace c93 := Bool.eq_false_iff.mpr c93
                    subst c93
                    have H1 : (if a0 = 1 then (if (rd l1 x128_1) = 42 then (spec_Text.l3 k1 a0 l1 l1 (l1.length : Int) (wrap64 (x128_1 + 1))) else (if ((rd l1 x128_1) = 38) then (spec_Text.l3 k1 a0 l1 l1 (l1.length : Int) (wrap64 (x128_1 + 1))) else (some ((⟨#[]⟩ : ByteArray), false)))) else (some ((⟨#[]⟩ : ByteArray), false))) = some (r1, r2) := by rw [if_neg (show ¬ (false = true) by decide)] at H; exact H
                    clear H
                    have H := H1
                    clear H1
                    by_cases c95 : a0 = 1
                    · rw [if_pos c95] at H
                      have c95b0 : (a0 == 1) = true := beq_iff_eq.mpr c95
                      have c95b1 : (a0 != 1) = false := bne_eq_false_iff_eq.mpr c95
                      clear c95
                      by_cases c96 : (rd l1 x128_1) = 42
                      · rw [if_pos c96] at H
                        have c96b0 : ((rd l1 x128_1) == 42) = true := beq_iff_eq.mpr c96
                        have c96b1 : ((rd l1 x128_1) != 42) = false := bne_eq_false_iff_eq.mpr c96
                        clear c96
                        have H' := Aside0.mk H
                        clear H
                        have p220 : 0 ≤ (x128_1 : Int) := of_decide_eq_true (by first | (with_reducible assumption) | assumption)
                        have q220 : x128_1 < (l1.length : Int) := of_decide_eq_true (by first | (with_reducible assumption) | assumption)
                        obtain ⟨ad220, e220, hx220_0⟩ := Kd.at_int (Kd.V_reads' HO_126.out).2.2 x128_1 p220 q220
                        cases e220
                        replace p220 := eq_true p220
                        replace q220 := eq_true q220
                        go_wp2_with (first | (go_at_call 9; (with_reducible refine (spec_letter.calls a0 (rd l1 x128_1) false _ A92.out).mono ?_); rintro e w97 ⟨rfl, hb⟩; have n0_ := Aside0.mk (Kd.V_below (by (with_reducible repeat (first | apply Kd.V_alloc | apply Kd.V_drewN | apply Kd.V_drew)); exact HO_1.out) hb); have n1_ := Aside0.mk (Kd.V_below (by (with_reducible repeat (first | apply Kd.V_alloc | apply Kd.V_drewN | apply Kd.V_drew)); exact HO_126.out) hb); have n2_ := Aside0.mk (below_step (by repeat (first | (with_reducible first | exact HB.out | apply below_alloc | apply pw_below_drewN | apply below_drew1) | exact HB.out)) hb); clear HO_1; clear HO_126; clear HB; have HO_1 := n0_; have HO_126 := n1_; have HB := n2_; clear n0_ n1_ n2_; (try clear hb); (try clear hb2); (try clear hk); (try clear hi)))
                        repeat (go_quiet (first | (go_at_call 9; (with_reducible refine (spec_letter.calls a0 (rd l1 x128_1) false _ A92.out).mono ?_); rintro e w97 ⟨rfl, hb⟩; have n0_ := Aside0.mk (Kd.V_below (by (with_reducible repeat (first | apply Kd.V_alloc | apply Kd.V_drewN | apply Kd.V_drew)); exact HO_1.out) hb); have n1_ := Aside0.mk (Kd.V_below (by (with_reducible repeat (first | apply Kd.V_alloc | apply Kd.V_drewN | apply Kd.V_drew)); exact HO_126.out) hb); have n2_ := Aside0.mk (below_step (by repeat (first | (with_reducible first | exact HB.out | apply below_alloc | apply pw_below_drewN | apply below_drew1) | exact HB.out)) hb); clear HO_1; clear HO_126; clear HB; have HO_1 := n0_; have HO_126 := n1_; have HB := n2_; clear n0_ n1_ n2_; (try clear hb); (try clear hb2); (try clear hk); (try clear hi))); try go_wp2_with (first | (go_at_call 9; (with_reducible refine (spec_letter.calls a0 (rd l1 x128_1) false _ A92.out).mono ?_); rintro e w97 ⟨rfl, hb⟩; have n0_ := Aside0.mk (Kd.V_below (by (with_reducible repeat (first | apply Kd.V_alloc | apply Kd.V_drewN | apply Kd.V_drew)); exact HO_1.out) hb); have n1_ := Aside0.mk (Kd.V_below (by (with_reducible repeat (first | apply Kd.V_alloc | apply Kd.V_drewN | apply Kd.V_drew)); exact HO_126.out) hb); have n2_ := Aside0.mk (below_step (by repeat (first | (with_reducible first | exact HB.out | apply below_alloc | apply pw_below_drewN | apply below_drew1) | exact HB.out)) hb); clear HO_1; clear HO_126; clear HB; have HO_1 := n0_; have HO_126 := n1_; have HB := n2_; clear n0_ n1_ n2_; (try clear hb); (try clear hb2); (try clear hk); (try clear hi))))
                        go_roundg k1
                        case measure => have := HK1.out; omega
                        case rel => exact ⟨(wrap64 (x128_1 + 1)), (by first | rfl | (simp; done) | (simp [*]; done)), H', ⟨by have := HK1.out; omega⟩, ⟨by (with_reducible repeat (first | apply Kd.V_alloc | apply Kd.V_drewN | apply Kd.V_drew)); exact HO_1.out⟩, ⟨by (with_reducible repeat (first | apply Kd.V_alloc | apply Kd.V_drewN | apply Kd.V_drew)); exact HO_126.out⟩, ⟨by repeat (first | (with_reducible first | exact HB.out | apply below_alloc | apply pw_below_drewN | apply below_drew1) | exact HB.out)⟩⟩
                      · rw [if_neg c96] at H
                        have c96b0 : ((rd l1 x128_1) == 42) = false := beq_eq_false_iff_ne.mpr c96
                        have c96b1 : ((rd l1 x128_1) != 42) = true := bne_iff_ne.mpr c96
                        by_cases c98 : ((rd l1 x128_1) = 38)
                        · rw [if_pos c98] at H
                          have c98b0 : ((rd l1 x128_1) == 38) = true := beq_iff_eq.mpr c98
                          have c98b1 : ((rd l1 x128_1) != 38) = false := bne_eq_false_iff_eq.mpr c98
                          clear c98
                          have H' := Aside0.mk H
                          clear H
                          have p220 : 0 ≤ (x128_1 : Int) := of_decide_eq_true (by first | (with_reducible assumption) | assumption)
                          have q220 : x128_1 < (l1.length : Int) := of_decide_eq_true (by first | (with_reducible assumption) | assumption)
                          obtain ⟨ad220, e220, hx220_0⟩ := Kd.at_int (Kd.V_reads' HO_126.out).2.2 x128_1 p220 q220
                          cases e220
                          replace p220 := eq_true p220
                          replace q220 := eq_true q220
                          go_wp2_with (first | (go_at_call 9; (with_reducible refine (spec_letter.calls a0 (rd l1 x128_1) false _ A92.out).mono ?_); rintro e w99 ⟨rfl, hb⟩; have n0_ := Aside0.mk (Kd.V_below (by (with_reducible repeat (first | apply Kd.V_alloc | apply Kd.V_drewN | apply Kd.V_drew)); exact HO_1.out) hb); have n1_ := Aside0.mk (Kd.V_below (by (with_reducible repeat (first | apply Kd.V_alloc | apply Kd.V_drewN | apply Kd.V_drew)); exact HO_126.out) hb); have n2_ := Aside0.mk (below_step (by repeat (first | (with_reducible first | exact HB.out | apply below_alloc | apply pw_below_drewN | apply below_drew1) | exact HB.out)) hb); clear HO_1; clear HO_126; clear HB; have HO_1 := n0_; have HO_126 := n1_; have HB := n2_; clear n0_ n1_ n2_; (try clear hb); (try clear hb2); (try clear hk); (try clear hi)))
                          repeat (go_quiet (first | (go_at_call 9; (with_reducible refine (spec_letter.calls a0 (rd l1 x128_1) false _ A92.out).mono ?_); rintro e w99 ⟨rfl, hb⟩; have n0_ := Aside0.mk (Kd.V_below (by (with_reducible repeat (first | apply Kd.V_alloc | apply Kd.V_drewN | apply Kd.V_drew)); exact HO_1.out) hb); have n1_ := Aside0.mk (Kd.V_below (by (with_reducible repeat (first | apply Kd.V_alloc | apply Kd.V_drewN | apply Kd.V_drew)); exact HO_126.out) hb); have n2_ := Aside0.mk (below_step (by repeat (first | (with_reducible first | exact HB.out | apply below_alloc | apply pw_below_drewN | apply below_drew1) | exact HB.out)) hb); clear HO_1; clear HO_126; clear HB; have HO_1 := n0_; have HO_126 := n1_; have HB := n2_; clear n0_ n1_ n2_; (try clear hb); (try clear hb2); (try clear hk); (try clear hi))); try go_wp2_with (first | (go_at_call 9; (with_reducible refine (spec_letter.calls a0 (rd l1 x128_1) false _ A92.out).mono ?_); rintro e w99 ⟨rfl, hb⟩; have n0_ := Aside0.mk (Kd.V_below (by (with_reducible repeat (first | apply Kd.V_alloc | apply Kd.V_drewN | apply Kd.V_drew)); exact HO_1.out) hb); have n1_ := Aside0.mk (Kd.V_below (by (with_reducible repeat (first | apply Kd.V_alloc | apply Kd.V_drewN | apply Kd.V_drew)); exact HO_126.out) hb); have n2_ := Aside0.mk (below_step (by repeat (first | (with_reducible first | exact HB.out | apply below_alloc | apply pw_below_drewN | apply below_drew1) | exact HB.out)) hb); clear HO_1; clear HO_126; clear HB; have HO_1 := n0_; have HO_126 := n1_; have HB := n2_; clear n0_ n1_ n2_; (try clear hb); (try clear hb2); (try clear hk); (try clear hi))))
                          go_roundg k1
                          case measure => have := HK1.out; omega
                          case rel => exact ⟨(wrap64 (x128_1 + 1)), (by first | rfl | (simp; done) | (simp [*]; done)), H', ⟨by have := HK1.out; omega⟩, ⟨by (with_reducible repeat (first | apply Kd.V_alloc | apply Kd.V_drewN | apply Kd.V_drew)); exact HO_1.out⟩, ⟨by (with_reducible repeat (first | apply Kd.V_alloc | apply Kd.V_drewN | apply Kd.V_drew)); exact HO_126.out⟩, ⟨by repeat (first | (with_reducible first | exact HB.out | apply below_alloc | apply pw_below_drewN | apply below_drew1) | exact HB.out)⟩⟩
                        · rw [if_neg c98] at H
                          have c98b0 : ((rd l1 x128_1) == 38) = false := beq_eq_false_iff_ne.mpr c98
                          have c98b1 : ((rd l1 x128_1) != 38) = true := bne_iff_ne.mpr c98
                          simp only [Option.some.injEq, Prod.mk.injEq] at H
                          obtain ⟨rfl, rfl⟩ := H
                          have p220 : 0 ≤ (x128_1 : Int) := of_decide_eq_true (by first | (with_reducible assumption) | assumption)
                          have q220 : x128_1 < (l1.length : Int) := of_decide_eq_true (by first | (with_reducible assumption) | assumption)
                          obtain ⟨ad220, e220, hx220_0⟩ := Kd.at_int (Kd.V_reads' HO_126.out).2.2 x128_1 p220 q220
                          cases e220
                          replace p220 := eq_true p220
                          replace q220 := eq_true q220
                          go_wp2_with (first | (go_at_call 9; (with_reducible refine (spec_letter.calls a0 (rd l1 x128_1) false _ A92.out).mono ?_); rintro e w100 ⟨rfl, hb⟩; have n0_ := Aside0.mk (Kd.V_below (by (with_reducible repeat (first | apply Kd.V_alloc | apply Kd.V_drewN | apply Kd.V_drew)); exact HO_1.out) hb); have n1_ := Aside0.mk (Kd.V_below (by (with_reducible repeat (first | apply Kd.V_alloc | apply Kd.V_drewN | apply Kd.V_drew)); exact HO_126.out) hb); have n2_ := Aside0.mk (below_step (by repeat (first | (with_reducible first | exact HB.out | apply below_alloc | apply pw_below_drewN | apply below_drew1) | exact HB.out)) hb); clear HO_1; clear HO_126; clear HB; have HO_1 := n0_; have HO_126 := n1_; have HB := n2_; clear n0_ n1_ n2_; (try clear hb); (try clear hb2); (try clear hk); (try clear hi)))
                          repeat (go_quiet (first | (go_at_call 9; (with_reducible refine (spec_letter.calls a0 (rd l1 x128_1) false _ A92.out).mono ?_); rintro e w100 ⟨rfl, hb⟩; have n0_ := Aside0.mk (Kd.V_below (by (with_reducible repeat (first | apply Kd.V_alloc | apply Kd.V_drewN | apply Kd.V_drew)); exact HO_1.out) hb); have n1_ := Aside0.mk (Kd.V_below (by (with_reducible repeat (first | apply Kd.V_alloc | apply Kd.V_drewN | apply Kd.V_drew)); exact HO_126.out) hb); have n2_ := Aside0.mk (below_step (by repeat (first | (with_reducible first | exact HB.out | apply below_alloc | apply pw_below_drewN | apply below_drew1) | exact HB.out)) hb); clear HO_1; clear HO_126; clear HB; have HO_1 := n0_; have HO_126 := n1_; have HB := n2_; clear n0_ n1_ n2_; (try clear hb); (try clear hb2); (try clear hk); (try clear hi))); try go_wp2_with (first | (go_at_call 9; (with_reducible refine (spec_letter.calls a0 (rd l1 x128_1) false _ A92.out).mono ?_); rintro e w100 ⟨rfl, hb⟩; have n0_ := Aside0.mk (Kd.V_below (by (with_reducible repeat (first | apply Kd.V_alloc | apply Kd.V_drewN | apply Kd.V_drew)); exact HO_1.out) hb); have n1_ := Aside0.mk (Kd.V_below (by (with_reducible repeat (first | apply Kd.V_alloc | apply Kd.V_drewN | apply Kd.V_drew)); exact HO_126.out) hb); have n2_ := Aside0.mk (below_step (by repeat (first | (with_reducible first | exact HB.out | apply below_alloc | apply pw_below_drewN | apply below_drew1) | exact HB.out)) hb); clear HO_1; clear HO_126; clear HB; have HO_1 := n0_; have HO_126 := n1_; have HB := n2_; clear n0_ n1_ n2_; (try clear hb); (try clear hb2); (try clear hk); (try clear hi))))
                          go_ret2
                          exact ⟨by first | rfl | (simp [errW_none, errW_some] <;> rfl) | (simp [*, errW_none, errW_some] <;> rfl), by repeat (first | (with_reducible first | exact HB.out | apply below_alloc | apply pw_below_drewN | apply below_drew1) | exact HB.out)⟩
                    · rw [if_neg c95] at H
                      have c95b0 : (a0 == 1) = false := beq_eq_false_iff_ne.mpr c95
                      have c95b1 : (a0 != 1) = true := bne_iff_ne.mpr c95
                      simp only [Option.some.injEq, Prod.mk.injEq] at H
                      obtain ⟨rfl, rfl⟩ := H
                      have p220 : 0 ≤ (x128_1 : Int) := of_decide_eq_true (by first | (with_reducible assumption) | assumption)
                      have q220 : x128_1 < (l1.length : Int) := of_decide_eq_true (by first | (with_reducible assumption) | assumption)
                      obtain ⟨ad220, e220, hx220_0⟩ := Kd.at_int (Kd.V_reads' HO_126.out).2.2 x128_1 p220 q220
                      cases e220
                      replace p220 := eq_true p220
                      replace q220 := eq_true q220
                      go_wp2_with (first | (go_at_call 9; (with_reducible refine (spec_letter.calls a0 (rd l1 x128_1) false _ A92.out).mono ?_); rintro e w101 ⟨rfl, hb⟩; have n0_ := Aside0.mk (Kd.V_below (by (with_reducible repeat (first | apply Kd.V_alloc | apply Kd.V_drewN | apply Kd.V_drew)); exact HO_1.out) hb); have n1_ := Aside0.mk (Kd.V_below (by (with_reducible repeat (first | apply Kd.V_alloc | apply Kd.V_drewN | apply Kd.V_drew)); exact HO_126.out) hb); have n2_ := Aside0.mk (below_step (by repeat (first | (with_reducible first | exact HB.out | apply below_alloc | apply pw_below_drewN | apply below_drew1) | exact HB.out)) hb); clear HO_1; clear HO_126; clear HB; have HO_1 := n0_; have HO_126 := n1_; have HB := n2_; clear n0_ n1_ n2_; (try clear hb); (try clear hb2); (try clear hk); (try clear hi)))
                      repeat (go_quiet (first | (go_at_call 9; (with_reducible refine (spec_letter.calls a0 (rd l1 x128_1) false _ A92.out).mono ?_); rintro e w101 ⟨rfl, hb⟩; have n0_ := Aside0.mk (Kd.V_below (by (with_reducible repeat (first | apply Kd.V_alloc | apply Kd.V_drewN | apply Kd.V_drew)); exact HO_1.out) hb); have n1_ := Aside0.mk (Kd.V_below (by (with_reducible repeat (first | apply Kd.V_alloc | apply Kd.V_drewN | apply Kd.V_drew)); exact HO_126.out) hb); have n2_ := Aside0.mk (below_step (by repeat (first | (with_reducible first | exact HB.out | apply below_alloc | apply pw_below_drewN | apply below_drew1) | exact HB.out)) hb); clear HO_1; clear HO_126; clear HB; have HO_1 := n0_; have HO_126 := n1_; have HB := n2_; clear n0_ n1_ n2_; (try clear hb); (try clear hb2); (try clear hk); (try clear hi))); try go_wp2_with (first | (go_at_call 9; (with_reducible refine (spec_letter.calls a0 (rd l1 x128_1) false _ A92.out).mono ?_); rintro e w101 ⟨rfl, hb⟩; have n0_ := Aside0.mk (Kd.V_below (by (with_reducible repeat (first | apply Kd.V_alloc | apply Kd.V_drewN | apply Kd.V_drew)); exact HO_1.out) hb); have n1_ := Aside0.mk (Kd.V_below (by (with_reducible repeat (first | apply Kd.V_alloc | apply Kd.V_drewN | apply Kd.V_drew)); exact HO_126.out) hb); have n2_ := Aside0.mk (below_step (by repeat (first | (with_reducible first | exact HB.out | apply below_alloc | apply pw_below_drewN | apply below_drew1) | exact HB.out)) hb); clear HO_1; clear HO_126; clear HB; have HO_1 := n0_; have HO_126 := n1_; have HB := n2_; clear n0_ n1_ n2_; (try clear hb); (try clear hb2); (try clear hk); (try clear hi))))
                      go_ret2
                      exact ⟨by first | rfl | (simp [errW_none, errW_some] <;> rfl) | (simp [*, errW_none, errW_some] <;> rfl), by repeat (first | (with_reducible first | exact HB.out | apply below_alloc | apply pw_below_drewN | apply below_drew1) | exact HB.out)⟩
                · rw [if_neg c91] at H
                  exact absurd H (by simp)
              · rw [if_neg c90] at H
                exact absurd H (by simp)
            · rw [if_neg c89] at H
              have c89b0 : decide (x128_1 < (l1.length : Int)) = false := decide_eq_false c89
              clear c89
              simp only [Option.some.injEq, Prod.mk.injEq] at H
              obtain ⟨rfl, rfl⟩ := H
              have hcv102 := Kd.C_string (P := Tryd.prog) (A := A1) (c := c1) Tryd.underlying24 Tryd.underlying5 Tryd.underlying9 (Kd.V_reads' HO_1.out).2.2
              go_wp2
              repeat (go_quiet (fail); try go_wp2)
              go_ret2
              exact ⟨by first | rfl | (simp [errW_none, errW_some] <;> rfl) | (simp [*, errW_none, errW_some] <;> rfl), by repeat (first | (with_reducible first | exact HB.out | apply below_alloc | apply pw_below_drewN | apply below_drew1) | exact HB.out)⟩

end Go.Proofs.YtmiemfgcggkbnaaDoor.QT
