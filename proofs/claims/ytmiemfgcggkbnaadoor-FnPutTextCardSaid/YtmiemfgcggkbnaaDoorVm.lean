/- spec.Writable: its walk, as the kit's print wrote it for this program, over the letter's hand walk. -/
import Derived.Test.YtmiemfgcggkbnaaDoorVh
import Derived.Test.YtmiemfgcggkbnaaDoorQTx2
import Derived.Lib.LazyBuf
import Derived.Lib.ValidAsc
import Derived.Lib.ValidLaws
import Derived.Lib.EndianBits
import Derived.Shelf.Unicode.DecodeSlow
import Derived.Laws.BitsAllLaws
namespace Go.Proofs.YtmiemfgcggkbnaaDoor.QT
open Go.BigFrame
open Go.RowKit Go.Proofs.YtmiemfgcggkbnaaDoorW.PrintWords Go.Proofs.YtmiemfgcggkbnaaDoorW.PrintLast Go.Proofs.YtmiemfgcggkbnaaDoorW.PrintMore
set_option linter.unusedVariables false
set_option linter.unusedSimpArgs false
def spec_Writable.l0 : Nat → Int → ByteArray → Int → Int → Option (Bool)
  | 0, _, _, _, _ => none
  | k + 1, x0, x1, x7, x8 => if x8 < x7 then (if x0 < 3 then (if 0 ≤ x8 then (if x8 < (x1.size : Int) then ((spec_letter.f x0 (bt x1 x8)).bind fun t105 => (if t105 = true then (spec_Writable.l0 k x0 x1 x7 (wrap64 (x8 + 1))) else (if x0 = 1 then (if ((bt x1 x8) = 42) then (spec_Writable.l0 k x0 x1 x7 (wrap64 (x8 + 1))) else (some false)) else (some false)))) else (none)) else (none)) else (spec_Writable.l0 k x0 x1 x7 (wrap64 (x8 + 1)))) else (some true)
def spec_Writable.f (k : Nat) (a0 : Int) (a1 : ByteArray) : Option (Bool) := spec_Writable.l0 k a0 a1 (a1.size : Int) 0
theorem spec_Writable.mono_l : ∀ k, (∀ y0 y1 y2 y3, LeO (spec_Writable.l0 k y0 y1 y2 y3) (spec_Writable.l0 (k + 1) y0 y1 y2 y3))
  | 0 => fun _ _ _ _ r h => by simp [spec_Writable.l0] at h
  | k + 1 => by
    have ih0 := spec_Writable.mono_l k
    · intro y0 y1 y2 y3
      unfold spec_Writable.l0
      repeat' first
      | (with_reducible exact ih0 _ _ _ _)
      | (with_reducible exact LeO.refl _)
      | (with_reducible exact LeO.none _)
      | (with_reducible refine LeO.ite ?_ ?_)
      | (with_reducible refine LeO.bind ?_ (fun _ => ?_))
      | exact ih0 _ _ _ _
      | exact LeO.none _
      | refine LeO.ite ?_ ?_
      | refine LeO.bind ?_ (fun _ => ?_)
theorem spec_Writable.mono : ∀ a0 a1 k, LeO (spec_Writable.f k a0 a1) (spec_Writable.f (k + 1) a0 a1) := by
  intro a0 a1 k
  have ih0 := spec_Writable.mono_l k
  unfold spec_Writable.f
  repeat' first
      | (with_reducible exact ih0 _ _ _ _)
      | (with_reducible exact LeO.refl _)
      | (with_reducible exact LeO.none _)
      | (with_reducible refine LeO.ite ?_ ?_)
      | (with_reducible refine LeO.bind ?_ (fun _ => ?_))
      | exact ih0 _ _ _ _
      | exact LeO.none _
      | refine LeO.ite ?_ ?_
      | refine LeO.bind ?_ (fun _ => ?_)
set_option maxHeartbeats 8000000 in
set_option maxRecDepth 100000 in
theorem spec_Writable.calls (k : Nat) (a0 : Int) (a1 : ByteArray) (r : Bool) (w : World) (h : spec_Writable.f k a0 a1 = some r) :
    Calls Tryd.prog 5 #[.int .i64 a0, .string a1] w fun e w' => e = .returned (.bool r) ∧ Below w.heap.size w w' := by
  have HB := Aside0.mk (Below.refl w.heap.size w)
  have H : (spec_Writable.l0 k a0 a1 (a1.size : Int) 0) = some r := h
  clear h
  have H' := Aside0.mk H
  clear H
  go_enter Tryd.func5, Tryd.ntmps5
  go_wp2
  go_loopg [8] k (fun kq v8 w' => ∃ (x8_1 : Int), v8 = .int .i64 x8_1 ∧ Aside0 (spec_Writable.l0 kq a0 a1 (a1.size : Int) x8_1 = some r) ∧ Aside0 (kq ≤ k) ∧ Aside0 (Below w.heap.size w w'))
  case atStart => exact ⟨(0), (by first | rfl | (simp; done) | (simp [*]; done)), H', ⟨Nat.le_refl _⟩, ⟨by repeat (first | (with_reducible first | exact HB.out | apply below_alloc | apply pw_below_drewN | apply below_drew1) | exact HB.out)⟩⟩
  case round =>
    clear H'
    try clear p2
    obtain ⟨x8_1, rfl, HA, HK1, HB⟩ := hrel
    cases gk with
    | zero => exact absurd HA.out (by simp [spec_Writable.l0])
    | succ k1 =>
      have H := HA.out
      clear HA
      simp only [spec_Writable.l0] at H
      by_cases c3 : x8_1 < (a1.size : Int)
      · rw [if_pos c3] at H
        have c3b0 : decide (x8_1 < (a1.size : Int)) = true := decide_eq_true c3
        clear c3
        by_cases c4 : a0 < 3
        · rw [if_pos c4] at H
          have c4b0 : decide (a0 < 3) = true := decide_eq_true c4
          clear c4
          by_cases c5 : 0 ≤ x8_1
          · rw [if_pos c5] at H
            have c5b0 : decide (0 ≤ x8_1) = true := decide_eq_true c5
            clear c5
            by_cases c6 : x8_1 < (a1.size : Int)
            · rw [if_pos c6] at H
              have c6b0 : decide (x8_1 < (a1.size : Int)) = true := decide_eq_true c6
              clear c6
              replace H := Option.bind_eq_some_iff.mp H
              obtain ⟨t105, A80, H⟩ := H
              replace H : (if t105 = true then (spec_Writable.l0 k1 a0 a1 (a1.size : Int) (wrap64 (x8_1 + 1))) else (if a0 = 1 then (if ((bt a1 x8_1) = 42) then (spec_Writable.l0 k1 a0 a1 (a1.size : Int) (wrap64 (x8_1 + 1))) else (some false)) else (some false))) = some r := H
              have A8 := Aside0.mk A80
              clear A80
              by_cases c9 : t105 = true
              · subst c9
                have H1 : (spec_Writable.l0 k1 a0 a1 (a1.size : Int) (wrap64 (x8_1 + 1))) = some r := by rw [if_pos rfl] at H; exact H
                clear H
                have H := H1
                clear H1
                have H' := Aside0.mk H
                clear H
                have p7 : 0 ≤ (x8_1 : Int) := of_decide_eq_true (by first | (with_reducible assumption) | assumption)
                have q7 : x8_1 < (a1.size : Int) := of_decide_eq_true (by first | (with_reducible assumption) | assumption)
                have hx7 := bt_at a1 x8_1
                replace p7 := eq_true p7
                replace q7 := eq_true q7
                go_wp2_with (first | (go_at_call 9; (with_reducible refine (spec_letter.calls a0 (bt a1 x8_1) true _ A8.out).mono ?_); rintro e w10 ⟨rfl, hb⟩; have n0_ := Aside0.mk (below_step (by repeat (first | (with_reducible first | exact HB.out | apply below_alloc | apply pw_below_drewN | apply below_drew1) | exact HB.out)) hb); clear HB; have HB := n0_; clear n0_; (try clear hb); (try clear hb2); (try clear hk); (try clear hi)))
                go_roundg k1
                case measure => have := HK1.out; omega
                case rel => exact ⟨(wrap64 (x8_1 + 1)), (by first | rfl | (simp; done) | (simp [*]; done)), H', ⟨by have := HK1.out; omega⟩, ⟨by repeat (first | (with_reducible first | exact HB.out | apply below_alloc | apply pw_below_drewN | apply below_drew1) | exact HB.out)⟩⟩
              · replace c9 := Bool.eq_false_iff.mpr c9
                subst c9
                have H1 : (if a0 = 1 then (if ((bt a1 x8_1) = 42) then (spec_Writable.l0 k1 a0 a1 (a1.size : Int) (wrap64 (x8_1 + 1))) else (some false)) else (some false)) = some r := by rw [if_neg (show ¬ (false = true) by decide)] at H; exact H
                clear H
                have H := H1
                clear H1
                by_cases c11 : a0 = 1
                · rw [if_pos c11] at H
                  have c11b0 : (a0 == 1) = true := beq_iff_eq.mpr c11
                  have c11b1 : (a0 != 1) = false := bne_eq_false_iff_eq.mpr c11
                  clear c11
                  by_cases c13 : ((bt a1 x8_1) = 42)
                  · rw [if_pos c13] at H
                    have c13b0 : ((bt a1 x8_1) == 42) = true := beq_iff_eq.mpr c13
                    have c13b1 : ((bt a1 x8_1) != 42) = false := bne_eq_false_iff_eq.mpr c13
                    clear c13
                    have H' := Aside0.mk H
                    clear H
                    have p7 : 0 ≤ (x8_1 : Int) := of_decide_eq_true (by first | (with_reducible assumption) | assumption)
                    have q7 : x8_1 < (a1.size : Int) := of_decide_eq_true (by first | (with_reducible assumption) | assumption)
                    have hx7 := bt_at a1 x8_1
                    replace p7 := eq_true p7
                    replace q7 := eq_true q7
                    go_wp2_with (first | (go_at_call 9; (with_reducible refine (spec_letter.calls a0 (bt a1 x8_1) false _ A8.out).mono ?_); rintro e w14 ⟨rfl, hb⟩; have n0_ := Aside0.mk (below_step (by repeat (first | (with_reducible first | exact HB.out | apply below_alloc | apply pw_below_drewN | apply below_drew1) | exact HB.out)) hb); clear HB; have HB := n0_; clear n0_; (try clear hb); (try clear hb2); (try clear hk); (try clear hi); have p12 : 0 ≤ (x8_1 : Int) := of_decide_eq_true (by first | (with_reducible assumption) | assumption); have q12 : x8_1 < (a1.size : Int) := of_decide_eq_true (by first | (with_reducible assumption) | assumption); have hx12 := bt_at a1 x8_1; replace p12 := eq_true p12; replace q12 := eq_true q12))
                    go_roundg k1
                    case measure => have := HK1.out; omega
                    case rel => exact ⟨(wrap64 (x8_1 + 1)), (by first | rfl | (simp; done) | (simp [*]; done)), H', ⟨by have := HK1.out; omega⟩, ⟨by repeat (first | (with_reducible first | exact HB.out | apply below_alloc | apply pw_below_drewN | apply below_drew1) | exact HB.out)⟩⟩
                  · rw [if_neg c13] at H
                    have c13b0 : ((bt a1 x8_1) == 42) = false := beq_eq_false_iff_ne.mpr c13
                    have c13b1 : ((bt a1 x8_1) != 42) = true := bne_iff_ne.mpr c13
                    obtain rfl := Option.some.inj H
                    have p7 : 0 ≤ (x8_1 : Int) := of_decide_eq_true (by first | (with_reducible assumption) | assumption)
                    have q7 : x8_1 < (a1.size : Int) := of_decide_eq_true (by first | (with_reducible assumption) | assumption)
                    have hx7 := bt_at a1 x8_1
                    replace p7 := eq_true p7
                    replace q7 := eq_true q7
                    go_wp2_with (first | (go_at_call 9; (with_reducible refine (spec_letter.calls a0 (bt a1 x8_1) false _ A8.out).mono ?_); rintro e w15 ⟨rfl, hb⟩; have n0_ := Aside0.mk (below_step (by repeat (first | (with_reducible first | exact HB.out | apply below_alloc | apply pw_below_drewN | apply below_drew1) | exact HB.out)) hb); clear HB; have HB := n0_; clear n0_; (try clear hb); (try clear hb2); (try clear hk); (try clear hi); have p12 : 0 ≤ (x8_1 : Int) := of_decide_eq_true (by first | (with_reducible assumption) | assumption); have q12 : x8_1 < (a1.size : Int) := of_decide_eq_true (by first | (with_reducible assumption) | assumption); have hx12 := bt_at a1 x8_1; replace p12 := eq_true p12; replace q12 := eq_true q12))
                    go_ret
                    exact ⟨by first | rfl | (simp [errW_none, errW_some] <;> rfl) | (simp [*, errW_none, errW_some] <;> rfl), by repeat (first | (with_reducible first | exact HB.out | apply below_alloc | apply pw_below_drewN | apply below_drew1) | exact HB.out)⟩
                · rw [if_neg c11] at H
                  have c11b0 : (a0 == 1) = false := beq_eq_false_iff_ne.mpr c11
                  have c11b1 : (a0 != 1) = true := bne_iff_ne.mpr c11
                  obtain rfl := Option.some.inj H
                  have p7 : 0 ≤ (x8_1 : Int) := of_decide_eq_true (by first | (with_reducible assumption) | assumption)
                  have q7 : x8_1 < (a1.size : Int) := of_decide_eq_true (by first | (with_reducible assumption) | assumption)
                  have hx7 := bt_at a1 x8_1
                  replace p7 := eq_true p7
                  replace q7 := eq_true q7
                  go_wp2_with (first | (go_at_call 9; (with_reducible refine (spec_letter.calls a0 (bt a1 x8_1) false _ A8.out).mono ?_); rintro e w16 ⟨rfl, hb⟩; have n0_ := Aside0.mk (below_step (by repeat (first | (with_reducible first | exact HB.out | apply below_alloc | apply pw_below_drewN | apply below_drew1) | exact HB.out)) hb); clear HB; have HB := n0_; clear n0_; (try clear hb); (try clear hb2); (try clear hk); (try clear hi)))
                  go_ret
                  exact ⟨by first | rfl | (simp [errW_none, errW_some] <;> rfl) | (simp [*, errW_none, errW_some] <;> rfl), by repeat (first | (with_reducible first | exact HB.out | apply below_alloc | apply pw_below_drewN | apply below_drew1) | exact HB.out)⟩
            · rw [if_neg c6] at H
              exact absurd H (by simp)
          · rw [if_neg c5] at H
            exact absurd H (by simp)
        · rw [if_neg c4] at H
          have c4b0 : decide (a0 < 3) = false := decide_eq_false c4
          clear c4
          have H' := Aside0.mk H
          clear H
          go_wp2
          go_roundg k1
          case measure => have := HK1.out; omega
          case rel => exact ⟨(wrap64 (x8_1 + 1)), (by first | rfl | (simp; done) | (simp [*]; done)), H', ⟨by have := HK1.out; omega⟩, ⟨by repeat (first | (with_reducible first | exact HB.out | apply below_alloc | apply pw_below_drewN | apply below_drew1) | exact HB.out)⟩⟩
      · rw [if_neg c3] at H
        have c3b0 : decide (x8_1 < (a1.size : Int)) = false := decide_eq_false c3
        clear c3
        obtain rfl := Option.some.inj H
        go_wp2
        go_ret
        exact ⟨by first | rfl | (simp [errW_none, errW_some] <;> rfl) | (simp [*, errW_none, errW_some] <;> rfl), by repeat (first | (with_reducible first | exact HB.out | apply below_alloc | apply pw_below_drewN | apply below_drew1) | exact HB.out)⟩

end Go.Proofs.YtmiemfgcggkbnaaDoor.QT
