-- Written by a program of this work (wip/patch_print.py) for this claim.
import Derived.Test.YtmiemfgcggkbnaaQIx0
namespace Go.Proofs.Ytmiemfgcggkbnaa.QI
open Go.RowKit Go.Proofs.YtmiemfgcggkbnaaW.PrintWords Go.Proofs.YtmiemfgcggkbnaaW.PrintLast Go.Proofs.YtmiemfgcggkbnaaW.PrintMore
attribute [local go_sem] max2_int min2_int max_two min_two max_three min_three max_four min_four   -- for this text's walks alone
set_option linter.unusedVariables false
set_option linter.unusedSimpArgs false

/-! ### bytes_Equal: function 17 -/
def bytes_Equal.f (l0 : List Int) (l1 : List Int) : Option (Bool) := some ((strOfNums l0).toList == (strOfNums l1).toList)
set_option maxHeartbeats 8000000 in
set_option maxRecDepth 100000 in
theorem bytes_Equal.calls (A0 : Option Addr) (c0 : Nat) (l0 : List Int) (A1 : Option Addr) (c1 : Nat) (l1 : List Int) (r : Bool) (w : World) (hr0 : Kd.C (Kd.int .u8) w A0 l0.length l0) (hc0 : l0.length ≤ c0) (hr1 : Kd.C (Kd.int .u8) w A1 l1.length l1) (hc1 : l1.length ≤ c1) (h : bytes_Equal.f l0 l1 = some r) :
    Calls Try.prog 17 #[.slice A0 l0.length c0, .slice A1 l1.length c1] w fun e w' => e = .returned (.bool r) ∧ Drawn0 w w' := by
  have HR0 := Aside0.mk hr0
  have HC0 := Aside0.mk hc0
  clear hr0 hc0
  have HR1 := Aside0.mk hr1
  have HC1 := Aside0.mk hc1
  clear hr1 hc1
  have H : (some ((strOfNums l0).toList == (strOfNums l1).toList)) = some r := h
  clear h
  obtain rfl := Option.some.inj H
  have hcv3 := Kd.C_string (P := Try.prog) (A := A0) (c := c0) Try.underlying25 Try.underlying5 Try.underlying9 HR0.out
  have hcv4 := Kd.C_string (P := Try.prog) (A := A1) (c := c1) Try.underlying25 Try.underlying5 Try.underlying9 HR1.out
  go_enter Try.func17, Try.ntmps17
  go_wp2
  go_ret
  exact ⟨by first | rfl | (simp; done) | (simp [*]; done), by repeat (first | exact Drawn0.refl _ | apply Drawn0.step)⟩

-- NOT PRINTED: function 80 (asn1_zzEncoded)

/-! ### asn1_int64Encoder_Len: function 133 -/
mutual
def asn1_int64Encoder_Len.l0 : Nat → Int → Int → Option (Int)
  | 0, _, _ => none
  | k + 1, x0, x3 => if x0 > 127 then (asn1_int64Encoder_Len.l0 k (x0 / 256) (wrap64 (x3 + 1))) else (asn1_int64Encoder_Len.l1 k x0 x3)
def asn1_int64Encoder_Len.l1 : Nat → Int → Int → Option (Int)
  | 0, _, _ => none
  | k + 1, x0, x3 => if x0 < (-128) then (asn1_int64Encoder_Len.l1 k (x0 / 256) (wrap64 (x3 + 1))) else (some x3)
end
def asn1_int64Encoder_Len.f (k : Nat) (a0 : Int) : Option (Int) := asn1_int64Encoder_Len.l0 k a0 1
theorem asn1_int64Encoder_Len.mono_l : ∀ k, (∀ y0 y1, LeO (asn1_int64Encoder_Len.l0 k y0 y1) (asn1_int64Encoder_Len.l0 (k + 1) y0 y1)) ∧ (∀ y0 y1, LeO (asn1_int64Encoder_Len.l1 k y0 y1) (asn1_int64Encoder_Len.l1 (k + 1) y0 y1))
  | 0 => ⟨fun _ _ r h => by simp [asn1_int64Encoder_Len.l0] at h, fun _ _ r h => by simp [asn1_int64Encoder_Len.l1] at h⟩
  | k + 1 => by
    obtain ⟨ih0, ih1⟩ := asn1_int64Encoder_Len.mono_l k
    refine ⟨?_, ?_⟩
    · intro y0 y1
      unfold asn1_int64Encoder_Len.l0
      repeat' first
      | (with_reducible exact ih0 _ _)
      | (with_reducible exact ih1 _ _)
      | (with_reducible exact LeO.refl _)
      | (with_reducible exact LeO.none _)
      | (with_reducible refine LeO.ite ?_ ?_)
      | (with_reducible refine LeO.bind ?_ (fun _ => ?_))
      | exact ih0 _ _
      | exact ih1 _ _
      | exact LeO.none _
      | refine LeO.ite ?_ ?_
      | refine LeO.bind ?_ (fun _ => ?_)
    · intro y0 y1
      unfold asn1_int64Encoder_Len.l1
      repeat' first
      | (with_reducible exact ih0 _ _)
      | (with_reducible exact ih1 _ _)
      | (with_reducible exact LeO.refl _)
      | (with_reducible exact LeO.none _)
      | (with_reducible refine LeO.ite ?_ ?_)
      | (with_reducible refine LeO.bind ?_ (fun _ => ?_))
      | exact ih0 _ _
      | exact ih1 _ _
      | exact LeO.none _
      | refine LeO.ite ?_ ?_
      | refine LeO.bind ?_ (fun _ => ?_)
theorem asn1_int64Encoder_Len.mono : ∀ a0 k, LeO (asn1_int64Encoder_Len.f k a0) (asn1_int64Encoder_Len.f (k + 1) a0) := by
  intro a0 k
  obtain ⟨ih0, ih1⟩ := asn1_int64Encoder_Len.mono_l k
  unfold asn1_int64Encoder_Len.f
  repeat' first
      | (with_reducible exact ih0 _ _)
      | (with_reducible exact ih1 _ _)
      | (with_reducible exact LeO.refl _)
      | (with_reducible exact LeO.none _)
      | (with_reducible refine LeO.ite ?_ ?_)
      | (with_reducible refine LeO.bind ?_ (fun _ => ?_))
      | exact ih0 _ _
      | exact ih1 _ _
      | exact LeO.none _
      | refine LeO.ite ?_ ?_
      | refine LeO.bind ?_ (fun _ => ?_)
set_option maxHeartbeats 8000000 in
set_option maxRecDepth 100000 in
theorem asn1_int64Encoder_Len.calls (k : Nat) (a0 : Int) (r : Int) (w : World) (h : asn1_int64Encoder_Len.f k a0 = some r) :
    Calls Try.prog 133 #[.int .i64 a0] w fun e w' => e = .returned (.int .i64 r) ∧ Drawn0 w w' := by
  have H : (asn1_int64Encoder_Len.l0 k a0 1) = some r := h
  clear h
  have H' := Aside0.mk H
  clear H
  go_enter Try.func133, Try.ntmps133
  go_wp2
  go_loopg [0, 3] k (fun kq v0 v3 w' => ∃ (x0_1 : Int) (x3_1 : Int), v0 = .int .i64 x0_1 ∧ v3 = .int .i64 x3_1 ∧ Aside0 (asn1_int64Encoder_Len.l0 kq x0_1 x3_1 = some r) ∧ Aside0 (kq ≤ k) ∧ Drawn0 w w')
  case atStart => exact ⟨(a0), (1), (by first | rfl | (simp; done) | (simp [*]; done)), (by first | rfl | (simp; done) | (simp [*]; done)), H', ⟨Nat.le_refl _⟩, by repeat (first | exact Drawn0.refl _ | apply Drawn0.step)⟩
  case round =>
    clear H'
    try clear c1
    obtain ⟨x0_1, x3_1, rfl, rfl, HA, HK1, ⟨m1, rfl⟩⟩ := hrel
    cases gk with
    | zero => exact absurd HA.out (by simp [asn1_int64Encoder_Len.l0])
    | succ k1 =>
      have H := HA.out
      clear HA
      simp only [asn1_int64Encoder_Len.l0] at H
      by_cases c2 : x0_1 > 127
      · rw [if_pos c2] at H
        have c2b0 : decide (127 < x0_1) = true := decide_eq_true c2
        clear c2
        have H' := Aside0.mk H
        clear H
        go_wp2
        go_roundg k1
        case measure => have := HK1.out; omega
        case rel => exact ⟨(x0_1 / 256), (wrap64 (x3_1 + 1)), (by first | rfl | (simp; done) | (simp [*]; done)), (by first | rfl | (simp; done) | (simp [*]; done)), H', ⟨by have := HK1.out; omega⟩, by repeat (first | exact Drawn0.refl _ | apply Drawn0.step)⟩
      · rw [if_neg c2] at H
        have c2b0 : decide (127 < x0_1) = false := decide_eq_false c2
        clear c2
        have H' := Aside0.mk H
        clear H
        go_wp2
        go_loopg [0, 3] k1 (fun kq v0 v3 w' => ∃ (x0_2 : Int) (x3_2 : Int), v0 = .int .i64 x0_2 ∧ v3 = .int .i64 x3_2 ∧ Aside0 (asn1_int64Encoder_Len.l1 kq x0_2 x3_2 = some r) ∧ Aside0 (kq ≤ k1) ∧ Drawn0 w w')
        case atStart => exact ⟨(x0_1), (x3_1), (by first | rfl | (simp; done) | (simp [*]; done)), (by first | rfl | (simp; done) | (simp [*]; done)), H', ⟨Nat.le_refl _⟩, by repeat (first | exact Drawn0.refl _ | apply Drawn0.step)⟩
        case round =>
          clear H'
          try clear c1
          try clear c2
          try clear c2b0
          try clear p2
          obtain ⟨x0_2, x3_2, rfl, rfl, HA, HK2, ⟨m2, rfl⟩⟩ := hrel
          cases gk with
          | zero => exact absurd HA.out (by simp [asn1_int64Encoder_Len.l1])
          | succ k2 =>
            have H := HA.out
            clear HA
            simp only [asn1_int64Encoder_Len.l1] at H
            by_cases c3 : x0_2 < (-128)
            · rw [if_pos c3] at H
              have c3b0 : decide (x0_2 < (-128)) = true := decide_eq_true c3
              clear c3
              have H' := Aside0.mk H
              clear H
              go_wp2
              go_roundg k2
              case measure => have := HK1.out; have := HK2.out; omega
              case rel => exact ⟨(x0_2 / 256), (wrap64 (x3_2 + 1)), (by first | rfl | (simp; done) | (simp [*]; done)), (by first | rfl | (simp; done) | (simp [*]; done)), H', ⟨by have := HK1.out; have := HK2.out; omega⟩, by repeat (first | exact Drawn0.refl _ | apply Drawn0.step)⟩
            · rw [if_neg c3] at H
              have c3b0 : decide (x0_2 < (-128)) = false := decide_eq_false c3
              clear c3
              obtain rfl := Option.some.inj H
              go_wp2
              go_ret
              exact ⟨by first | rfl | (simp; done) | (simp [*]; done), by repeat (first | exact Drawn0.refl _ | apply Drawn0.step)⟩

/-! ### asn1_int64Encoder_Encode: function 132 -/
def asn1_int64Encoder_Encode.l0 : Nat → Int → List Int → Int → Int → Option (List Int)
  | 0, _, _, _, _ => none
  | k + 1, x0, x1, x4, x5 => if x5 < x4 then (if 0 ≤ (IntKind.u64.wrap (wrap64 ((wrap64 ((wrap64 (x4 - 1)) - x5)) * 8))) then (if 0 ≤ x5 then (if x5 < (x1.length : Int) then (asn1_int64Encoder_Encode.l0 k x0 (x1.set (x5 : Int).toNat ((shr .i64 x0 (IntKind.u64.wrap (wrap64 ((wrap64 ((wrap64 (x4 - 1)) - x5)) * 8)))) % 256)) x4 (wrap64 (x5 + 1))) else (none)) else (none)) else (none)) else (some x1)
def asn1_int64Encoder_Encode.f (k : Nat) (a0 : Int) (l1 : List Int) : Option (List Int) := (asn1_int64Encoder_Len.f k a0).bind fun t101 => (asn1_int64Encoder_Encode.l0 k a0 l1 t101 0)
theorem asn1_int64Encoder_Encode.mono_l : ∀ k, (∀ y0 y1 y2 y3, LeO (asn1_int64Encoder_Encode.l0 k y0 y1 y2 y3) (asn1_int64Encoder_Encode.l0 (k + 1) y0 y1 y2 y3))
  | 0 => fun _ _ _ _ r h => by simp [asn1_int64Encoder_Encode.l0] at h
  | k + 1 => by
    have ih0 := asn1_int64Encoder_Encode.mono_l k
    · intro y0 y1 y2 y3
      unfold asn1_int64Encoder_Encode.l0
      repeat' first
      | (with_reducible exact ih0 _ _ _ _)
      | (with_reducible exact asn1_int64Encoder_Len.mono _ _)
      | (with_reducible exact LeO.refl _)
      | (with_reducible exact LeO.none _)
      | (with_reducible refine LeO.ite ?_ ?_)
      | (with_reducible refine LeO.bind ?_ (fun _ => ?_))
      | exact ih0 _ _ _ _
      | exact asn1_int64Encoder_Len.mono _ _
      | exact LeO.none _
      | refine LeO.ite ?_ ?_
      | refine LeO.bind ?_ (fun _ => ?_)
theorem asn1_int64Encoder_Encode.mono : ∀ a0 a1 k, LeO (asn1_int64Encoder_Encode.f k a0 a1) (asn1_int64Encoder_Encode.f (k + 1) a0 a1) := by
  intro a0 a1 k
  have ih0 := asn1_int64Encoder_Encode.mono_l k
  unfold asn1_int64Encoder_Encode.f
  repeat' first
      | (with_reducible exact ih0 _ _ _ _)
      | (with_reducible exact asn1_int64Encoder_Len.mono _ _)
      | (with_reducible exact LeO.refl _)
      | (with_reducible exact LeO.none _)
      | (with_reducible refine LeO.ite ?_ ?_)
      | (with_reducible refine LeO.bind ?_ (fun _ => ?_))
      | exact ih0 _ _ _ _
      | exact asn1_int64Encoder_Len.mono _ _
      | exact LeO.none _
      | refine LeO.ite ?_ ?_
      | refine LeO.bind ?_ (fun _ => ?_)
set_option maxHeartbeats 8000000 in
set_option maxRecDepth 100000 in
theorem asn1_int64Encoder_Encode.calls (k : Nat) (a0 : Int) (P1_ : Nat → Prop) (u9000_ : Value) (l1 : List Int) (r : List Int) (w0 w : World) (hB : Below w0.heap.size w0 w) (ho1 : Kd.R (Kd.int .u8) 5 w w0.heap.size P1_ u9000_ l1) (h : asn1_int64Encoder_Encode.f k a0 l1 = some r) :
    Calls Try.prog 132 #[.int .i64 a0, u9000_] w fun e w' => e = .returned (.tuple #[]) ∧ Kd.R (Kd.int .u8) 5 w' w0.heap.size (fun k_ => (P1_ k_ ∨ w.heap.size ≤ k_)) u9000_ r ∧ Below w0.heap.size w0 w' ∧ Kept w w' (fun k_ => P1_ k_) := by
  have HO1 := Aside0.mk (show Kd.R (Kd.int .u8) 5 w w0.heap.size (fun k_ => (P1_ k_ ∨ w.heap.size ≤ k_)) u9000_ l1 from Kd.R_mono ho1 (fun k_ hk => (.inl hk)))
  have HK := Aside0.mk (Kept.refl w (fun k_ => P1_ k_))
  have HW0 := Aside0.mk hB.size
  have HB := Aside0.mk hB
  clear hB
  have H : ((asn1_int64Encoder_Len.f k a0).bind fun t101 => (asn1_int64Encoder_Encode.l0 k a0 l1 t101 0)) = some r := h
  clear h
  replace H := Option.bind_eq_some_iff.mp H
  obtain ⟨t101, A30, H⟩ := H
  replace H : (asn1_int64Encoder_Encode.l0 k a0 l1 t101 0) = some r := H
  have A3 := Aside0.mk A30
  clear A30
  have H' := Aside0.mk H
  clear H
  go_enter Try.func132, Try.ntmps132
  go_wp2_with (first | ((with_reducible refine gate_callee (f := 133) rfl ?_); refine goesL_ (some 7) rfl rfl Try.func133 (by kernel_rfl) rfl #[.int .i64 a0] rfl (by (try simp only [List.map_toArray, List.map_cons, List.map_nil]); first | done | rfl | (simp only [List.length_drop, List.length_take]; rfl)) ?_; (with_reducible refine (asn1_int64Encoder_Len.calls k a0 t101 _ A3.out).mono ?_); rintro e w' ⟨rfl, ⟨nd, rfl⟩⟩; refine ⟨_, rfl, ?_⟩))
  go_loopg [5] k (fun kq v5 w' => ∃ (x1_1 : List Int) (x5_1 : Int), v5 = .int .i64 x5_1 ∧ Aside0 (asn1_int64Encoder_Encode.l0 kq a0 x1_1 t101 x5_1 = some r) ∧ Aside0 (kq ≤ k) ∧ Aside0 (Kd.R (Kd.int .u8) 5 w' w0.heap.size (fun k_ => (P1_ k_ ∨ w.heap.size ≤ k_)) u9000_ x1_1) ∧ Aside0 (Kept w w' (fun k_ => P1_ k_)) ∧ Aside0 (Below w0.heap.size w0 w'))
  case atStart => exact ⟨(l1), (0), (by first | rfl | (simp; done) | (simp [*]; done)), H', ⟨Nat.le_refl _⟩, ⟨by (with_reducible repeat (first | apply Kd.R_alloc | apply Kd.R_drewN | apply Kd.R_drew)); exact HO1.out⟩, ⟨by repeat (first | (with_reducible first | exact HK.out | apply Kept.alloc | apply Kept.drewN | apply Kept.drew) | exact HK.out)⟩, ⟨by repeat (first | (with_reducible first | exact HB.out | apply below_alloc | apply pw_below_drewN | apply below_drew1) | exact HB.out)⟩⟩
  case round =>
    clear H'
    try clear c1
    try clear p2
    obtain ⟨x1_1, x5_1, rfl, HA, HK1, HO_1, HK, HB⟩ := hrel
    cases gk with
    | zero => exact absurd HA.out (by simp [asn1_int64Encoder_Encode.l0])
    | succ k1 =>
      have H := HA.out
      clear HA
      simp only [asn1_int64Encoder_Encode.l0] at H
      by_cases c4 : x5_1 < t101
      · rw [if_pos c4] at H
        have c4b0 : decide (x5_1 < t101) = true := decide_eq_true c4
        clear c4
        obtain ⟨ji5, hji5⟩ : ∃ j_ : Int, (IntKind.u64.wrap (wrap64 ((wrap64 ((wrap64 (t101 - 1)) - x5_1)) * 8))) = j_ := ⟨_, rfl⟩
        replace H : (if 0 ≤ (ji5) then (if 0 ≤ x5_1 then (if x5_1 < (x1_1.length : Int) then (asn1_int64Encoder_Encode.l0 k1 a0 (x1_1.set (x5_1 : Int).toNat ((shr .i64 a0 (ji5)) % 256)) t101 (wrap64 (x5_1 + 1))) else (none)) else (none)) else (none)) = some r := by first | (rw [hji5] at H; exact H) | (simp only [hji5] at H ⊢; exact H)
        by_cases c6 : 0 ≤ (ji5)
        · rw [if_pos c6] at H
          have c6b0 := eq_true c6
          have c6b1 : decide (0 ≤ (ji5)) = true := decide_eq_true c6
          clear c6
          obtain ⟨ji7, hji7⟩ : ∃ j_ : Int, (shr .i64 a0 (ji5)) = j_ := ⟨_, rfl⟩
          replace H : (if 0 ≤ x5_1 then (if x5_1 < (x1_1.length : Int) then (asn1_int64Encoder_Encode.l0 k1 a0 (x1_1.set (x5_1 : Int).toNat ((ji7) % 256)) t101 (wrap64 (x5_1 + 1))) else (none)) else (none)) = some r := by first | (rw [hji7] at H; exact H) | (simp only [hji7] at H ⊢; exact H)
          have hji7_ : (a0 / 2 ^ min (ji5).toNat 64) = ji7 := hji7
          have hji7z : (ji5) ≤ 64 → (a0 / 2 ^ (ji5).toNat) = ji7 := shr_small hji7
          by_cases c8 : 0 ≤ x5_1
          · rw [if_pos c8] at H
            have c8b0 : decide (0 ≤ x5_1) = true := decide_eq_true c8
            clear c8
            by_cases c9 : x5_1 < (x1_1.length : Int)
            · rw [if_pos c9] at H
              have c9b0 : decide (x5_1 < (x1_1.length : Int)) = true := decide_eq_true c9
              clear c9
              obtain ⟨y102, hy102⟩ : ∃ y_ : List Int, y_ = (x1_1.set (x5_1 : Int).toNat ((ji7) % 256)) := ⟨_, rfl⟩
              replace H : (asn1_int64Encoder_Encode.l0 k1 a0 y102 t101 (wrap64 (x5_1 + 1))) = some r := by first | (rw [hy102]; with_reducible exact H) | (have H2_ := (Option.bind_some _ _).symm.trans H; rw [hy102]; with_reducible exact H2_) | (have H2_ := (Option.bind_some _ _).symm.trans H; with_reducible exact H2_) | with_reducible exact H | (rw [hy102]; exact H) | exact H
              have Ny102 := Aside0.mk hy102
              clear hy102
              have H' := Aside0.mk H
              clear H
              have p10 : 0 ≤ (x5_1 : Int) := of_decide_eq_true (by first | (with_reducible assumption) | assumption)
              have q10 : (x5_1 : Int) < ((x1_1.length : Int) : Int) := of_decide_eq_true (by first | (with_reducible assumption) | assumption)
              obtain ⟨go10, co10, eo10, gb10, gl10, cl10, HG10⟩ := Kd.R_form HO_1.out (by omega)
              (first | cases eo10 | (injection eo10 with ea_ en_ ec_; (first | subst ea_ | (injection ea_ with ea_; subst ea_)); subst ec_; clear en_))
              have GB10 := Aside0.mk gb10
              have GG10 := Aside0.mk HG10
              clear gb10 gl10 HG10
              have HMgo10 := Aside0.mk (show (P1_ go10 ∨ w.heap.size ≤ go10) from (HO_1.out.1 _ rfl))
              obtain ⟨hx10_0, hf10_0⟩ := Kd.R_celln 0 HO_1.out (x5_1 : Int) p10 q10
              replace p10 := eq_true p10
              replace q10 := eq_true q10
              have HP11 := Kd.R_putg HO_1.out (x5_1 : Int) ((ji7) % 256)
              go_wp2_with (first | ((with_reducible refine gate_store (t := 5) (p := 24) rfl ?_); refine store_event (t := 5) (p := 24) (v := ?vo_w12) (w1 := (wr.setCell ⟨go10, (x5_1 : Int).toNat, none⟩ (.int .u8 ((ji7) % 256)))) ?hg ?ho ?hn ?hr ?_; (case ho => rfl); (case hg => rfl); (case hn => rfl); (case hr => first | (go_simp; done) | (go_simp; rfl)); intro w12 hw; have hg : wr.grownBy w12 (some go10) := (by rw [hw]; exact HP11.2); have hp_ : Kd.R (Kd.int .u8) 5 w12 w0.heap.size (fun k_ => (P1_ k_ ∨ w.heap.size ≤ k_)) (.slice (some ⟨go10, 0, none⟩) x1_1.length co10) y102 := (by rw [hw, Ny102.out]; exact HP11.1); clear HP11; have n0_ := Aside0.mk (hp_); have n1_ := Aside0.mk ((by rw [hw]; exact below_set (HB.out) GB10.out : Below w0.heap.size w0 w12)); have n2_ := Aside0.mk (Kept.of_grown (S := (fun k_ => P1_ k_)) hg (by repeat (first | (with_reducible first | exact HK.out | apply Kept.alloc | apply Kept.drewN | apply Kept.drew) | exact HK.out)) (fun k_ e_ => (HO_1.out.1 k_ e_))); clear HO_1; clear HB; clear HK; have HO_1 := n0_; have HB := n1_; have HK := n2_; clear n0_ n1_ n2_; clear hg hw hp_))
              go_roundg k1
              case measure => have := HK1.out; omega
              case rel => exact ⟨(y102), (wrap64 (x5_1 + 1)), (by first | rfl | (simp; done) | (simp [*]; done)), H', ⟨by have := HK1.out; omega⟩, ⟨by (with_reducible repeat (first | apply Kd.R_alloc | apply Kd.R_drewN | apply Kd.R_drew)); exact HO_1.out⟩, ⟨by repeat (first | (with_reducible first | exact HK.out | apply Kept.alloc | apply Kept.drewN | apply Kept.drew) | exact HK.out)⟩, ⟨by repeat (first | (with_reducible first | exact HB.out | apply below_alloc | apply pw_below_drewN | apply below_drew1) | exact HB.out)⟩⟩
            · rw [if_neg c9] at H
              exact absurd H (by simp)
          · rw [if_neg c8] at H
            exact absurd H (by simp)
        · rw [if_neg c6] at H
          exact absurd H (by simp)
      · rw [if_neg c4] at H
        have c4b0 : decide (x5_1 < t101) = false := decide_eq_false c4
        clear c4
        obtain rfl := Option.some.inj H
        go_wp2
        first | go_end0 | ((try simp only [Exit.inBlock, Exit.then]); refine bodyPost_ret (results_none rfl _ _ _) rfl ?_)
        exact ⟨by first | rfl | (simp [errW_none, errW_some] <;> rfl) | (simp [*, errW_none, errW_some] <;> rfl), by (with_reducible repeat (first | apply Kd.R_alloc | apply Kd.R_drewN | apply Kd.R_drew)); exact HO_1.out, by repeat (first | (with_reducible first | exact HB.out | apply below_alloc | apply pw_below_drewN | apply below_drew1) | exact HB.out), by repeat (first | (with_reducible first | exact HK.out | apply Kept.alloc | apply Kept.drewN | apply Kept.drew) | exact HK.out)⟩

-- NOT PRINTED: function 67 (asn1_ZZPutInt64)

def zzEncI.f (k : Nat) (a0 : Int) : Option (List Int) := (asn1_int64Encoder_Len.f k a0).bind fun n => if 0 ≤ n ∧ n.toNat * 1 ≤ 281474976710656 then asn1_int64Encoder_Encode.f k a0 (List.replicate n.toNat 0) else none
set_option maxHeartbeats 8000000 in
set_option maxRecDepth 100000 in
theorem zzEncI.calls (k : Nat) (a0 : Int) (r : List Int) (w : World) (h : zzEncI.f k a0 = some r) :
    Calls Try.prog 80 #[.iface 123 (.int .i64 a0)] w fun e w' => ∃ v0_ : Value, e = .returned v0_ ∧ Kd.R (Kd.int .u8) 5 w' w.heap.size (fun _ => True) v0_ r ∧ Below w.heap.size w w' := by
  unfold zzEncI.f at h
  obtain ⟨n, A1, h⟩ := Option.bind_eq_some_iff.mp h
  by_cases c : 0 ≤ n ∧ n.toNat * 1 ≤ 281474976710656
  · rw [if_pos c] at h
    have A1 := Aside0.mk A1
    have H := Aside0.mk h
    have C := Aside0.mk c
    have HB := Aside0.mk (Below.refl w.heap.size w)
    clear h c
    have hm1 := fun (w : World) => (show (Go.method 270 123 (.int .i64 a0) "Len").run Try.prog w = .ok (133, .int .i64 a0) w from by kernel_rfl)
    have hm2 := fun (w : World) => (show (Go.method 270 123 (.int .i64 a0) "Encode").run Try.prog w = .ok (132, .int .i64 a0) w from by kernel_rfl)
    go_enter Try.func80, Try.ntmps80
    go_wp2_with (first | (go_at_call 133; (with_reducible refine (asn1_int64Encoder_Len.calls k a0 n _ A1.out).mono ?_); rintro e w' ⟨rfl, ⟨nd, rfl⟩⟩) | ((with_reducible refine gate_dst (N := 6) rfl ?_); refine Kd.R_make (Kd.int .u8) (w0 := w) w.heap.size 5 ?hg (N := 6) ?hd 25 (.tmp 5) (.tmp 5) rfl n rfl rfl Try.underlying25 (.int .u8 0) 1 info5 rfl (by decide) (by decide) 0 (okp := fun _ => True) (ok := fun _ => True) ?hzero (fun _ h => h) trivial C.out.1 C.out.2 ?hB ?hbase ?_; (case hd => rfl); (case hg => rfl); (case hzero => rfl); (case hB => exact by repeat (first | (with_reducible first | exact HB.out | apply below_alloc | apply pw_below_drewN | apply below_drew1) | exact HB.out)); (case hbase => exact Nat.le_refl _); intro v1 w1 ho hb hg_ hnew_; have HO1 := Aside0.mk ho; have HB1 := Aside0.mk hb; clear ho hb hg_ hnew_) | (go_at_call 132; (with_reducible refine (asn1_int64Encoder_Encode.calls k a0 (fun _ => True) v1 (List.replicate n.toNat 0) r w w1 HB1.out HO1.out H.out).mono ?_); rintro e w' ⟨rfl, ho, hb, hk⟩; have HO2 := Aside0.mk ho; have HB2 := Aside0.mk hb; clear ho hb hk))
    go_ret
    exact ⟨_, rfl, Kd.R_mono HO2.out (fun _ _ => trivial), HB2.out⟩
  · rw [if_neg c] at h
    cases h
set_option maxHeartbeats 8000000 in
set_option maxRecDepth 100000 in
theorem zzPutI.calls (k : Nat) (a0 : Int) (r : List Int) (w : World) (h : zzEncI.f k a0 = some r) :
    Calls Try.prog 67 #[.int .i64 a0] w fun e w' => ∃ v0_ : Value, e = .returned v0_ ∧ Kd.R (Kd.int .u8) 5 w' w.heap.size (fun _ => True) v0_ r ∧ Below w.heap.size w w' := by
  have H := Aside0.mk h
  clear h
  go_enter Try.func67, Try.ntmps67
  go_wp2_with (first | (go_at_call 80; (with_reducible refine (zzEncI.calls k a0 r _ H.out).mono ?_); rintro e w' ⟨v1, rfl, ho, hb⟩; have HO := Aside0.mk ho; have HB := Aside0.mk hb; clear ho hb))
  go_ret
  exact ⟨_, rfl, HO.out, HB.out⟩
def impl_PutInt64.f (k : Nat) (a0 : Int) : Option (List Int) := zzEncI.f k a0
theorem impl_PutInt64.mono : ∀ a0 k, LeO (impl_PutInt64.f k a0) (impl_PutInt64.f (k + 1) a0) := fun a0 k => LeO.bind (asn1_int64Encoder_Len.mono a0 k) (fun n => LeO.ite (asn1_int64Encoder_Encode.mono _ _ _) (LeO.refl _))
set_option maxHeartbeats 8000000 in
set_option maxRecDepth 100000 in
theorem impl_PutInt64.calls (k : Nat) (a0 : Int) (r : List Int) (w : World) (h : impl_PutInt64.f k a0 = some r) :
    Calls Try.prog 37 #[.int .i64 a0] w fun e w' => ∃ v0_ : Value, e = .returned (v0_) ∧ Kd.R (Kd.int .u8) 5 w' w.heap.size (fun _ => True) v0_ r ∧ Below w.heap.size w w' := by
  have H := Aside0.mk (show zzEncI.f k a0 = some r from h)
  clear h
  go_enter Try.func37, Try.ntmps37
  go_wp2_with (first | (go_at_call 67; (with_reducible refine (zzPutI.calls k a0 r _ H.out).mono ?_); rintro e w' ⟨v1, rfl, ho, hb⟩; have HO := Aside0.mk ho; have HB := Aside0.mk hb; clear ho hb))
  go_ret
  exact ⟨_, rfl, HO.out, HB.out⟩

/-! ### impl_copied: function 44 -/
def impl_copied.f (l0 : List Int) : Option (List Int) := if ([] : List Int).length + l0.length < 140737488355328 then (some (([] : List Int) ++ l0)) else (none)
set_option maxHeartbeats 8000000 in
set_option maxRecDepth 100000 in
theorem impl_copied.calls (A0 : Option Addr) (c0 : Nat) (l0 : List Int) (r : List Int) (w : World) (hr0 : Kd.C (Kd.int .u8) w A0 l0.length l0) (hc0 : l0.length ≤ c0) (h : impl_copied.f l0 = some r) :
    Calls Try.prog 44 #[.slice A0 l0.length c0] w fun e w' => ∃ v0_ : Value, e = .returned (v0_) ∧ Kd.R (Kd.int .u8) 5 w' w.heap.size (fun _ => True) v0_ r ∧ Below w.heap.size w w' := by
  have HR0 := Aside0.mk hr0
  have HC0 := Aside0.mk hc0
  clear hr0 hc0
  have HB := Aside0.mk (Below.refl w.heap.size w)
  have H : (if ([] : List Int).length + l0.length < 140737488355328 then (some (([] : List Int) ++ l0)) else (none)) = some r := h
  clear h
  by_cases c2 : ([] : List Int).length + l0.length < 140737488355328
  · rw [if_pos c2] at H
    have LMc2 := Aside0.mk c2
    clear c2
    obtain ⟨y103, hy103⟩ : ∃ y_ : List Int, y_ = (([] : List Int) ++ l0) := ⟨_, rfl⟩
    replace H : (some y103) = some r := by first | (rw [hy103]; with_reducible exact H) | (have H2_ := (Option.bind_some _ _).symm.trans H; rw [hy103]; with_reducible exact H2_) | (have H2_ := (Option.bind_some _ _).symm.trans H; with_reducible exact H2_) | with_reducible exact H | (rw [hy103]; exact H) | exact H
    have Ny103 := Aside0.mk hy103
    clear hy103
    obtain rfl := Option.some.inj H
    go_enter Try.func44, Try.ntmps44
    go_wp2_with (first | ((with_reducible refine gate_builtin (b := .append) (xs := #[.const (.slice none 0 0), .tmp 3]) rfl ?_); at_builtin; refine Kd.R_append_rows (Kd.int .u8) (w0 := w) w.heap.size rfl (.const (.slice none 0 0)) (.tmp 3) 25 5 (.int .u8 0) 1 rfl Try.underlying25 info5 rfl (by decide) (by omega) (.slice none 0 0) ([] : List Int) l0 _ _ _ (fun _ => True) (fun _ => False) rfl rfl ?aO ?aR (fun _ _ h => h) (fun _ h => h.elim) ?aF ?aB ?aS ?aL ?_; (case aR => repeat (first | exact HR0.out | (with_reducible refine Kd.C_alloc ?_ _) | (with_reducible refine Kd.C_drewN ?_ _) | (with_reducible refine Kd.C_drew ?_))); (case aB => exact (by repeat (first | (with_reducible first | exact HB.out | apply below_alloc | apply pw_below_drewN | apply below_drew1) | exact HB.out))); (case aF => exact (fun _ _ => trivial)); (case aO => exact ((Kd.R_nil _ _ _ _ (fun _ => True)))); (case aS => exact (below_size (by repeat (first | (with_reducible first | exact HB.out | apply below_alloc | apply pw_below_drewN | apply below_drew1) | exact HB.out)))); (case aL => have := LMc2.out; omega); intro v104 w3 ho hb hg hat; rw [← Ny103.out] at ho; have n0_ := Aside0.mk (hb); have n1_ := Aside0.mk (ho); clear HB; have HB := n0_; have HO105 := n1_; clear n0_ n1_; clear ho hb hg hat))
    go_ret
    exact ⟨_, by first | rfl | (simp [errW_none, errW_some] <;> rfl) | (simp [*, errW_none, errW_some] <;> rfl), by (with_reducible repeat (first | apply Kd.R_alloc | apply Kd.R_drewN | apply Kd.R_drew)); exact HO105.out, by repeat (first | (with_reducible first | exact HB.out | apply below_alloc | apply pw_below_drewN | apply below_drew1) | exact HB.out)⟩
  · rw [if_neg c2] at H
    exact absurd H (by simp)

/-! ### impl_short: function 48 -/
def impl_short.f (l0 : List Int) : Option (Bool) := some (decide ((l0.length : Int) ≤ 10000))
set_option maxHeartbeats 8000000 in
set_option maxRecDepth 100000 in
theorem impl_short.calls (A0 : Option Addr) (c0 : Nat) (l0 : List Int) (r : Bool) (w : World) (hr0 : Kd.C (Kd.int .u8) w A0 l0.length l0) (hc0 : l0.length ≤ c0) (h : impl_short.f l0 = some r) :
    Calls Try.prog 48 #[.slice A0 l0.length c0] w fun e w' => e = .returned (.bool r) ∧ Drawn0 w w' := by
  have HR0 := Aside0.mk hr0
  have HC0 := Aside0.mk hc0
  clear hr0 hc0
  have H : (some (decide ((l0.length : Int) ≤ 10000))) = some r := h
  clear h
  obtain rfl := Option.some.inj H
  go_enter Try.func48, Try.ntmps48
  go_wp2
  go_ret
  exact ⟨by first | rfl | (simp; done) | (simp [*]; done), by repeat (first | exact Drawn0.refl _ | apply Drawn0.step)⟩

/-! ### asn1_checkInteger: function 104 -/
def asn1_checkInteger.f (l0 : List Int) : Option (Option Int) := if (l0.length : Int) = 0 then (some (some 0)) else (if (l0.length : Int) = 1 then (some none) else (if 0 < (l0.length : Int) then (if (rd l0 0) = 0 then (if 1 < (l0.length : Int) then (if (Go.bits .and .u8 (rd l0 1) 128) = 0 then (some (some 1)) else (if (rd l0 0) = 255 then (if (Go.bits .and .u8 (rd l0 1) 128) = 128 then (some (some 1)) else (some none)) else (some none))) else (none)) else (if (rd l0 0) = 255 then (if 1 < (l0.length : Int) then (if (Go.bits .and .u8 (rd l0 1) 128) = 128 then (some (some 1)) else (some none)) else (none)) else (some none))) else (none)))
set_option maxHeartbeats 8000000 in
set_option maxRecDepth 100000 in
theorem asn1_checkInteger.calls (A0 : Option Addr) (c0 : Nat) (l0 : List Int) (r : Option Int) (w : World) (hr0 : Kd.C (Kd.int .u8) w A0 l0.length l0) (hc0 : l0.length ≤ c0) (h : asn1_checkInteger.f l0 = some r) :
    Calls Try.prog 104 #[.slice A0 l0.length c0] w fun e w' => e = .returned (errW r) ∧ Drawn0 w w' := by
  have hu133 := Try.underlying133
  have hu72 := Try.underlying72
  have HR0 := Aside0.mk hr0
  have HC0 := Aside0.mk hc0
  clear hr0 hc0
  have H : (if (l0.length : Int) = 0 then (some (some 0)) else (if (l0.length : Int) = 1 then (some none) else (if 0 < (l0.length : Int) then (if (rd l0 0) = 0 then (if 1 < (l0.length : Int) then (if (Go.bits .and .u8 (rd l0 1) 128) = 0 then (some (some 1)) else (if (rd l0 0) = 255 then (if (Go.bits .and .u8 (rd l0 1) 128) = 128 then (some (some 1)) else (some none)) else (some none))) else (none)) else (if (rd l0 0) = 255 then (if 1 < (l0.length : Int) then (if (Go.bits .and .u8 (rd l0 1) 128) = 128 then (some (some 1)) else (some none)) else (none)) else (some none))) else (none)))) = some r := h
  clear h
  by_cases c2 : (l0.length : Int) = 0
  · rw [if_pos c2] at H
    have c2b0 : ((l0.length : Int) == 0) = true := beq_iff_eq.mpr c2
    have c2b1 : ((l0.length : Int) != 0) = false := bne_eq_false_iff_eq.mpr c2
    clear c2
    obtain rfl := Option.some.inj H
    go_enter Try.func104, Try.ntmps104
    go_wp2
    go_ret
    exact ⟨by first | rfl | (simp; done) | (simp [*]; done), by repeat (first | exact Drawn0.refl _ | apply Drawn0.step)⟩
  · rw [if_neg c2] at H
    have c2b0 : ((l0.length : Int) == 0) = false := beq_eq_false_iff_ne.mpr c2
    have c2b1 : ((l0.length : Int) != 0) = true := bne_iff_ne.mpr c2
    have c2b2 : ¬ (l0 = []) := fun h_ => c2 (by rw [h_]; rfl)
    by_cases c3 : (l0.length : Int) = 1
    · rw [if_pos c3] at H
      have c3b0 : ((l0.length : Int) == 1) = true := beq_iff_eq.mpr c3
      have c3b1 : ((l0.length : Int) != 1) = false := bne_eq_false_iff_eq.mpr c3
      clear c3
      obtain rfl := Option.some.inj H
      go_enter Try.func104, Try.ntmps104
      go_wp2
      go_ret
      exact ⟨by first | rfl | (simp; done) | (simp [*]; done), by repeat (first | exact Drawn0.refl _ | apply Drawn0.step)⟩
    · rw [if_neg c3] at H
      have c3b0 : ((l0.length : Int) == 1) = false := beq_eq_false_iff_ne.mpr c3
      have c3b1 : ((l0.length : Int) != 1) = true := bne_iff_ne.mpr c3
      by_cases c4 : 0 < (l0.length : Int)
      · rw [if_pos c4] at H
        have c4b0 : decide (0 < (l0.length : Int)) = true := decide_eq_true c4
        have c4b1 : decide (0 < l0.length) = true := decide_eq_true (by omega)
        clear c4
        by_cases c5 : (rd l0 0) = 0
        · rw [if_pos c5] at H
          have c5b0 : ((rd l0 0) == 0) = true := beq_iff_eq.mpr c5
          have c5b1 : ((rd l0 0) != 0) = false := bne_eq_false_iff_eq.mpr c5
          clear c5
          by_cases c6 : 1 < (l0.length : Int)
          · rw [if_pos c6] at H
            have c6b0 : decide (1 < (l0.length : Int)) = true := decide_eq_true c6
            have c6b1 : decide (1 < l0.length) = true := decide_eq_true (by omega)
            clear c6
            by_cases c7 : (Go.bits .and .u8 (rd l0 1) 128) = 0
            · rw [if_pos c7] at H
              have c7b0 : ((Go.bits .and .u8 (rd l0 1) 128) == 0) = true := beq_iff_eq.mpr c7
              have c7b1 : ((Go.bits .and .u8 (rd l0 1) 128) != 0) = false := bne_eq_false_iff_eq.mpr c7
              clear c7
              obtain rfl := Option.some.inj H
              have p106 : 0 ≤ (0 : Int) := (by omega)
              have q106 : 0 < (l0.length : Int) := of_decide_eq_true (by first | (with_reducible assumption) | assumption)
              obtain ⟨ad106, e106, hx106_0⟩ := Kd.at_int HR0.out 0 p106 q106
              cases e106
              have qi106 : (0 < l0.length) = True := eq_true (by omega)
              (try rw [show ((0 : Int)).toNat = 0 from rfl] at hx106_0)
              (try rw [Addr.add_zero'] at hx106_0)
              replace p106 := eq_true p106
              replace q106 := eq_true q106
              have p107 : 0 ≤ (1 : Int) := (by omega)
              have q107 : 1 < (l0.length : Int) := of_decide_eq_true (by first | (with_reducible assumption) | assumption)
              obtain ⟨ad107, e107, hx107_0⟩ := Kd.at_int HR0.out 1 p107 q107
              obtain rfl : ad106 = ad107 := (by injection e107)
              (try simp only [show (1 : Int).toNat = 1 from rfl, Nat.reduceMul, Nat.reduceEqDiff, Go.Addr.add, ↓reduceIte] at hx107_0)
              have qi107 : (1 < l0.length) = True := eq_true (by omega)
              (try rw [show ((1 : Int)).toNat = 1 from rfl] at hx107_0)
              replace p107 := eq_true p107
              replace q107 := eq_true q107
              go_enter Try.func104, Try.ntmps104
              go_wp2
              go_ret
              exact ⟨by first | rfl | (simp; done) | (simp [*]; done), by repeat (first | exact Drawn0.refl _ | apply Drawn0.step)⟩
            · rw [if_neg c7] at H
              have c7b0 : ((Go.bits .and .u8 (rd l0 1) 128) == 0) = false := beq_eq_false_iff_ne.mpr c7
              have c7b1 : ((Go.bits .and .u8 (rd l0 1) 128) != 0) = true := bne_iff_ne.mpr c7
              by_cases c8 : (rd l0 0) = 255
              · rw [if_pos c8] at H
                have c8b0 : ((rd l0 0) == 255) = true := beq_iff_eq.mpr c8
                have c8b1 : ((rd l0 0) != 255) = false := bne_eq_false_iff_eq.mpr c8
                clear c8
                by_cases c9 : (Go.bits .and .u8 (rd l0 1) 128) = 128
                · rw [if_pos c9] at H
                  have c9b0 : ((Go.bits .and .u8 (rd l0 1) 128) == 128) = true := beq_iff_eq.mpr c9
                  have c9b1 : ((Go.bits .and .u8 (rd l0 1) 128) != 128) = false := bne_eq_false_iff_eq.mpr c9
                  clear c9
                  obtain rfl := Option.some.inj H
                  have p106 : 0 ≤ (0 : Int) := (by omega)
                  have q106 : 0 < (l0.length : Int) := of_decide_eq_true (by first | (with_reducible assumption) | assumption)
                  obtain ⟨ad106, e106, hx106_0⟩ := Kd.at_int HR0.out 0 p106 q106
                  cases e106
                  have qi106 : (0 < l0.length) = True := eq_true (by omega)
                  (try rw [show ((0 : Int)).toNat = 0 from rfl] at hx106_0)
                  (try rw [Addr.add_zero'] at hx106_0)
                  replace p106 := eq_true p106
                  replace q106 := eq_true q106
                  have p107 : 0 ≤ (1 : Int) := (by omega)
                  have q107 : 1 < (l0.length : Int) := of_decide_eq_true (by first | (with_reducible assumption) | assumption)
                  obtain ⟨ad107, e107, hx107_0⟩ := Kd.at_int HR0.out 1 p107 q107
                  obtain rfl : ad106 = ad107 := (by injection e107)
                  (try simp only [show (1 : Int).toNat = 1 from rfl, Nat.reduceMul, Nat.reduceEqDiff, Go.Addr.add, ↓reduceIte] at hx107_0)
                  have qi107 : (1 < l0.length) = True := eq_true (by omega)
                  (try rw [show ((1 : Int)).toNat = 1 from rfl] at hx107_0)
                  replace p107 := eq_true p107
                  replace q107 := eq_true q107
                  have p108 : 0 ≤ (0 : Int) := (by omega)
                  have q108 : 0 < (l0.length : Int) := of_decide_eq_true (by first | (with_reducible assumption) | assumption)
                  obtain ⟨ad108, e108, hx108_0⟩ := Kd.at_int HR0.out 0 p108 q108
                  obtain rfl : ad106 = ad108 := (by injection e108)
                  have qi108 : (0 < l0.length) = True := eq_true (by omega)
                  (try rw [show ((0 : Int)).toNat = 0 from rfl] at hx108_0)
                  (try rw [Addr.add_zero'] at hx108_0)
                  replace p108 := eq_true p108
                  replace q108 := eq_true q108
                  have p109 : 0 ≤ (1 : Int) := (by omega)
                  have q109 : 1 < (l0.length : Int) := of_decide_eq_true (by first | (with_reducible assumption) | assumption)
                  obtain ⟨ad109, e109, hx109_0⟩ := Kd.at_int HR0.out 1 p109 q109
                  obtain rfl : ad106 = ad109 := (by injection e109)
                  (try simp only [show (1 : Int).toNat = 1 from rfl, Nat.reduceMul, Nat.reduceEqDiff, Go.Addr.add, ↓reduceIte] at hx109_0)
                  have qi109 : (1 < l0.length) = True := eq_true (by omega)
                  (try rw [show ((1 : Int)).toNat = 1 from rfl] at hx109_0)
                  replace p109 := eq_true p109
                  replace q109 := eq_true q109
                  go_enter Try.func104, Try.ntmps104
                  go_wp2
                  go_ret
                  exact ⟨by first | rfl | (simp; done) | (simp [*]; done), by repeat (first | exact Drawn0.refl _ | apply Drawn0.step)⟩
                · rw [if_neg c9] at H
                  have c9b0 : ((Go.bits .and .u8 (rd l0 1) 128) == 128) = false := beq_eq_false_iff_ne.mpr c9
                  have c9b1 : ((Go.bits .and .u8 (rd l0 1) 128) != 128) = true := bne_iff_ne.mpr c9
                  obtain rfl := Option.some.inj H
                  have p106 : 0 ≤ (0 : Int) := (by omega)
                  have q106 : 0 < (l0.length : Int) := of_decide_eq_true (by first | (with_reducible assumption) | assumption)
                  obtain ⟨ad106, e106, hx106_0⟩ := Kd.at_int HR0.out 0 p106 q106
                  cases e106
                  have qi106 : (0 < l0.length) = True := eq_true (by omega)
                  (try rw [show ((0 : Int)).toNat = 0 from rfl] at hx106_0)
                  (try rw [Addr.add_zero'] at hx106_0)
                  replace p106 := eq_true p106
                  replace q106 := eq_true q106
                  have p107 : 0 ≤ (1 : Int) := (by omega)
                  have q107 : 1 < (l0.length : Int) := of_decide_eq_true (by first | (with_reducible assumption) | assumption)
                  obtain ⟨ad107, e107, hx107_0⟩ := Kd.at_int HR0.out 1 p107 q107
                  obtain rfl : ad106 = ad107 := (by injection e107)
                  (try simp only [show (1 : Int).toNat = 1 from rfl, Nat.reduceMul, Nat.reduceEqDiff, Go.Addr.add, ↓reduceIte] at hx107_0)
                  have qi107 : (1 < l0.length) = True := eq_true (by omega)
                  (try rw [show ((1 : Int)).toNat = 1 from rfl] at hx107_0)
                  replace p107 := eq_true p107
                  replace q107 := eq_true q107
                  have p108 : 0 ≤ (0 : Int) := (by omega)
                  have q108 : 0 < (l0.length : Int) := of_decide_eq_true (by first | (with_reducible assumption) | assumption)
                  obtain ⟨ad108, e108, hx108_0⟩ := Kd.at_int HR0.out 0 p108 q108
                  obtain rfl : ad106 = ad108 := (by injection e108)
                  have qi108 : (0 < l0.length) = True := eq_true (by omega)
                  (try rw [show ((0 : Int)).toNat = 0 from rfl] at hx108_0)
                  (try rw [Addr.add_zero'] at hx108_0)
                  replace p108 := eq_true p108
                  replace q108 := eq_true q108
                  have p109 : 0 ≤ (1 : Int) := (by omega)
                  have q109 : 1 < (l0.length : Int) := of_decide_eq_true (by first | (with_reducible assumption) | assumption)
                  obtain ⟨ad109, e109, hx109_0⟩ := Kd.at_int HR0.out 1 p109 q109
                  obtain rfl : ad106 = ad109 := (by injection e109)
                  (try simp only [show (1 : Int).toNat = 1 from rfl, Nat.reduceMul, Nat.reduceEqDiff, Go.Addr.add, ↓reduceIte] at hx109_0)
                  have qi109 : (1 < l0.length) = True := eq_true (by omega)
                  (try rw [show ((1 : Int)).toNat = 1 from rfl] at hx109_0)
                  replace p109 := eq_true p109
                  replace q109 := eq_true q109
                  go_enter Try.func104, Try.ntmps104
                  go_wp2
                  go_ret
                  exact ⟨by first | rfl | (simp; done) | (simp [*]; done), by repeat (first | exact Drawn0.refl _ | apply Drawn0.step)⟩
              · rw [if_neg c8] at H
                have c8b0 : ((rd l0 0) == 255) = false := beq_eq_false_iff_ne.mpr c8
                have c8b1 : ((rd l0 0) != 255) = true := bne_iff_ne.mpr c8
                obtain rfl := Option.some.inj H
                have p106 : 0 ≤ (0 : Int) := (by omega)
                have q106 : 0 < (l0.length : Int) := of_decide_eq_true (by first | (with_reducible assumption) | assumption)
                obtain ⟨ad106, e106, hx106_0⟩ := Kd.at_int HR0.out 0 p106 q106
                cases e106
                have qi106 : (0 < l0.length) = True := eq_true (by omega)
                (try rw [show ((0 : Int)).toNat = 0 from rfl] at hx106_0)
                (try rw [Addr.add_zero'] at hx106_0)
                replace p106 := eq_true p106
                replace q106 := eq_true q106
                have p107 : 0 ≤ (1 : Int) := (by omega)
                have q107 : 1 < (l0.length : Int) := of_decide_eq_true (by first | (with_reducible assumption) | assumption)
                obtain ⟨ad107, e107, hx107_0⟩ := Kd.at_int HR0.out 1 p107 q107
                obtain rfl : ad106 = ad107 := (by injection e107)
                (try simp only [show (1 : Int).toNat = 1 from rfl, Nat.reduceMul, Nat.reduceEqDiff, Go.Addr.add, ↓reduceIte] at hx107_0)
                have qi107 : (1 < l0.length) = True := eq_true (by omega)
                (try rw [show ((1 : Int)).toNat = 1 from rfl] at hx107_0)
                replace p107 := eq_true p107
                replace q107 := eq_true q107
                have p108 : 0 ≤ (0 : Int) := (by omega)
                have q108 : 0 < (l0.length : Int) := of_decide_eq_true (by first | (with_reducible assumption) | assumption)
                obtain ⟨ad108, e108, hx108_0⟩ := Kd.at_int HR0.out 0 p108 q108
                obtain rfl : ad106 = ad108 := (by injection e108)
                have qi108 : (0 < l0.length) = True := eq_true (by omega)
                (try rw [show ((0 : Int)).toNat = 0 from rfl] at hx108_0)
                (try rw [Addr.add_zero'] at hx108_0)
                replace p108 := eq_true p108
                replace q108 := eq_true q108
                go_enter Try.func104, Try.ntmps104
                go_wp2
                go_ret
                exact ⟨by first | rfl | (simp; done) | (simp [*]; done), by repeat (first | exact Drawn0.refl _ | apply Drawn0.step)⟩
          · rw [if_neg c6] at H
            exact absurd H (by simp)
        · rw [if_neg c5] at H
          have c5b0 : ((rd l0 0) == 0) = false := beq_eq_false_iff_ne.mpr c5
          have c5b1 : ((rd l0 0) != 0) = true := bne_iff_ne.mpr c5
          by_cases c10 : (rd l0 0) = 255
          · rw [if_pos c10] at H
            have c10b0 : ((rd l0 0) == 255) = true := beq_iff_eq.mpr c10
            have c10b1 : ((rd l0 0) != 255) = false := bne_eq_false_iff_eq.mpr c10
            clear c10
            by_cases c11 : 1 < (l0.length : Int)
            · rw [if_pos c11] at H
              have c11b0 : decide (1 < (l0.length : Int)) = true := decide_eq_true c11
              have c11b1 : decide (1 < l0.length) = true := decide_eq_true (by omega)
              clear c11
              by_cases c12 : (Go.bits .and .u8 (rd l0 1) 128) = 128
              · rw [if_pos c12] at H
                have c12b0 : ((Go.bits .and .u8 (rd l0 1) 128) == 128) = true := beq_iff_eq.mpr c12
                have c12b1 : ((Go.bits .and .u8 (rd l0 1) 128) != 128) = false := bne_eq_false_iff_eq.mpr c12
                clear c12
                obtain rfl := Option.some.inj H
                have p106 : 0 ≤ (0 : Int) := (by omega)
                have q106 : 0 < (l0.length : Int) := of_decide_eq_true (by first | (with_reducible assumption) | assumption)
                obtain ⟨ad106, e106, hx106_0⟩ := Kd.at_int HR0.out 0 p106 q106
                cases e106
                have qi106 : (0 < l0.length) = True := eq_true (by omega)
                (try rw [show ((0 : Int)).toNat = 0 from rfl] at hx106_0)
                (try rw [Addr.add_zero'] at hx106_0)
                replace p106 := eq_true p106
                replace q106 := eq_true q106
                have p110 : 0 ≤ (0 : Int) := (by omega)
                have q110 : 0 < (l0.length : Int) := of_decide_eq_true (by first | (with_reducible assumption) | assumption)
                obtain ⟨ad110, e110, hx110_0⟩ := Kd.at_int HR0.out 0 p110 q110
                obtain rfl : ad106 = ad110 := (by injection e110)
                have qi110 : (0 < l0.length) = True := eq_true (by omega)
                (try rw [show ((0 : Int)).toNat = 0 from rfl] at hx110_0)
                (try rw [Addr.add_zero'] at hx110_0)
                replace p110 := eq_true p110
                replace q110 := eq_true q110
                have p111 : 0 ≤ (1 : Int) := (by omega)
                have q111 : 1 < (l0.length : Int) := of_decide_eq_true (by first | (with_reducible assumption) | assumption)
                obtain ⟨ad111, e111, hx111_0⟩ := Kd.at_int HR0.out 1 p111 q111
                obtain rfl : ad106 = ad111 := (by injection e111)
                (try simp only [show (1 : Int).toNat = 1 from rfl, Nat.reduceMul, Nat.reduceEqDiff, Go.Addr.add, ↓reduceIte] at hx111_0)
                have qi111 : (1 < l0.length) = True := eq_true (by omega)
                (try rw [show ((1 : Int)).toNat = 1 from rfl] at hx111_0)
                replace p111 := eq_true p111
                replace q111 := eq_true q111
                go_enter Try.func104, Try.ntmps104
                go_wp2
                go_ret
                exact ⟨by first | rfl | (simp; done) | (simp [*]; done), by repeat (first | exact Drawn0.refl _ | apply Drawn0.step)⟩
              · rw [if_neg c12] at H
                have c12b0 : ((Go.bits .and .u8 (rd l0 1) 128) == 128) = false := beq_eq_false_iff_ne.mpr c12
                have c12b1 : ((Go.bits .and .u8 (rd l0 1) 128) != 128) = true := bne_iff_ne.mpr c12
                obtain rfl := Option.some.inj H
                have p106 : 0 ≤ (0 : Int) := (by omega)
                have q106 : 0 < (l0.length : Int) := of_decide_eq_true (by first | (with_reducible assumption) | assumption)
                obtain ⟨ad106, e106, hx106_0⟩ := Kd.at_int HR0.out 0 p106 q106
                cases e106
                have qi106 : (0 < l0.length) = True := eq_true (by omega)
                (try rw [show ((0 : Int)).toNat = 0 from rfl] at hx106_0)
                (try rw [Addr.add_zero'] at hx106_0)
                replace p106 := eq_true p106
                replace q106 := eq_true q106
                have p110 : 0 ≤ (0 : Int) := (by omega)
                have q110 : 0 < (l0.length : Int) := of_decide_eq_true (by first | (with_reducible assumption) | assumption)
                obtain ⟨ad110, e110, hx110_0⟩ := Kd.at_int HR0.out 0 p110 q110
                obtain rfl : ad106 = ad110 := (by injection e110)
                have qi110 : (0 < l0.length) = True := eq_true (by omega)
                (try rw [show ((0 : Int)).toNat = 0 from rfl] at hx110_0)
                (try rw [Addr.add_zero'] at hx110_0)
                replace p110 := eq_true p110
                replace q110 := eq_true q110
                have p111 : 0 ≤ (1 : Int) := (by omega)
                have q111 : 1 < (l0.length : Int) := of_decide_eq_true (by first | (with_reducible assumption) | assumption)
                obtain ⟨ad111, e111, hx111_0⟩ := Kd.at_int HR0.out 1 p111 q111
                obtain rfl : ad106 = ad111 := (by injection e111)
                (try simp only [show (1 : Int).toNat = 1 from rfl, Nat.reduceMul, Nat.reduceEqDiff, Go.Addr.add, ↓reduceIte] at hx111_0)
                have qi111 : (1 < l0.length) = True := eq_true (by omega)
                (try rw [show ((1 : Int)).toNat = 1 from rfl] at hx111_0)
                replace p111 := eq_true p111
                replace q111 := eq_true q111
                go_enter Try.func104, Try.ntmps104
                go_wp2
                go_ret
                exact ⟨by first | rfl | (simp; done) | (simp [*]; done), by repeat (first | exact Drawn0.refl _ | apply Drawn0.step)⟩
            · rw [if_neg c11] at H
              exact absurd H (by simp)
          · rw [if_neg c10] at H
            have c10b0 : ((rd l0 0) == 255) = false := beq_eq_false_iff_ne.mpr c10
            have c10b1 : ((rd l0 0) != 255) = true := bne_iff_ne.mpr c10
            obtain rfl := Option.some.inj H
            have p106 : 0 ≤ (0 : Int) := (by omega)
            have q106 : 0 < (l0.length : Int) := of_decide_eq_true (by first | (with_reducible assumption) | assumption)
            obtain ⟨ad106, e106, hx106_0⟩ := Kd.at_int HR0.out 0 p106 q106
            cases e106
            have qi106 : (0 < l0.length) = True := eq_true (by omega)
            (try rw [show ((0 : Int)).toNat = 0 from rfl] at hx106_0)
            (try rw [Addr.add_zero'] at hx106_0)
            replace p106 := eq_true p106
            replace q106 := eq_true q106
            have p110 : 0 ≤ (0 : Int) := (by omega)
            have q110 : 0 < (l0.length : Int) := of_decide_eq_true (by first | (with_reducible assumption) | assumption)
            obtain ⟨ad110, e110, hx110_0⟩ := Kd.at_int HR0.out 0 p110 q110
            obtain rfl : ad106 = ad110 := (by injection e110)
            have qi110 : (0 < l0.length) = True := eq_true (by omega)
            (try rw [show ((0 : Int)).toNat = 0 from rfl] at hx110_0)
            (try rw [Addr.add_zero'] at hx110_0)
            replace p110 := eq_true p110
            replace q110 := eq_true q110
            go_enter Try.func104, Try.ntmps104
            go_wp2
            go_ret
            exact ⟨by first | rfl | (simp; done) | (simp [*]; done), by repeat (first | exact Drawn0.refl _ | apply Drawn0.step)⟩
      · rw [if_neg c4] at H
        exact absurd H (by simp)

/-! ### asn1_parseInt64: function 90 -/
def asn1_parseInt64.l0 : Nat → List Int → Int → Option Int → Int → Option (Int × Option Int)
  | 0, _, _, _, _ => none
  | k + 1, x0, x2, x3, x4 => if x4 < (x0.length : Int) then (if 0 ≤ x4 then (asn1_parseInt64.l0 k x0 (Go.bits .or .i64 (wrap64 (x2 * 256)) (wrap64 (rd x0 x4))) x3 (wrap64 (x4 + 1))) else (none)) else (some (shr .i64 (shl .i64 x2 ((64 - (((((x0.length : Int)) % 256) * 8) % 256)) % 256)) ((64 - (((((x0.length : Int)) % 256) * 8) % 256)) % 256), x3))
def asn1_parseInt64.f (k : Nat) (l0 : List Int) : Option (Int × Option Int) := (asn1_checkInteger.f l0).bind fun t112 => (if t112.isNone = true then (if (l0.length : Int) > 8 then (some (0, some 2)) else (asn1_parseInt64.l0 k l0 0 none 0)) else (some (0, some (t112.getD 0))))
theorem asn1_parseInt64.mono_l : ∀ k, (∀ y0 y1 y2 y3, LeO (asn1_parseInt64.l0 k y0 y1 y2 y3) (asn1_parseInt64.l0 (k + 1) y0 y1 y2 y3))
  | 0 => fun _ _ _ _ r h => by simp [asn1_parseInt64.l0] at h
  | k + 1 => by
    have ih0 := asn1_parseInt64.mono_l k
    · intro y0 y1 y2 y3
      unfold asn1_parseInt64.l0
      repeat' first
      | (with_reducible exact ih0 _ _ _ _)
      | (with_reducible exact LeO.refl _)
      | (with_reducible exact LeO.none _)
      | (with_reducible refine LeO.ite ?_ ?_)
      | (with_reducible refine LeO.bind ?_ (fun _ => ?_))
      | exact ih0 _ _ _ _
      | exact LeO.none _
      | refine LeO.ite ?_ ?_
      | refine LeO.bind ?_ (fun _ => ?_)
theorem asn1_parseInt64.mono : ∀ a0 k, LeO (asn1_parseInt64.f k a0) (asn1_parseInt64.f (k + 1) a0) := by
  intro a0 k
  have ih0 := asn1_parseInt64.mono_l k
  unfold asn1_parseInt64.f
  repeat' first
      | (with_reducible exact ih0 _ _ _ _)
      | (with_reducible exact LeO.refl _)
      | (with_reducible exact LeO.none _)
      | (with_reducible refine LeO.ite ?_ ?_)
      | (with_reducible refine LeO.bind ?_ (fun _ => ?_))
      | exact ih0 _ _ _ _
      | exact LeO.none _
      | refine LeO.ite ?_ ?_
      | refine LeO.bind ?_ (fun _ => ?_)
set_option maxHeartbeats 8000000 in
set_option maxRecDepth 100000 in
theorem asn1_parseInt64.calls (k : Nat) (A0 : Option Addr) (c0 : Nat) (l0 : List Int) (r1 : Int) (r2 : Option Int) (w : World) (hr0 : Kd.C (Kd.int .u8) w A0 l0.length l0) (hc0 : l0.length ≤ c0) (h : asn1_parseInt64.f k l0 = some (r1, r2)) :
    Calls Try.prog 90 #[.slice A0 l0.length c0] w fun e w' => e = .returned (.tuple #[.int .i64 r1, errW r2]) ∧ Drawn0 w w' := by
  have hu133 := Try.underlying133
  have hu72 := Try.underlying72
  have HR0 := Aside0.mk hr0
  have HC0 := Aside0.mk hc0
  clear hr0 hc0
  have H : ((asn1_checkInteger.f l0).bind fun t112 => (if t112.isNone = true then (if (l0.length : Int) > 8 then (some (0, some 2)) else (asn1_parseInt64.l0 k l0 0 none 0)) else (some (0, some (t112.getD 0))))) = some (r1, r2) := h
  clear h
  replace H := Option.bind_eq_some_iff.mp H
  obtain ⟨t112, A20, H⟩ := H
  replace H : (if t112.isNone = true then (if (l0.length : Int) > 8 then (some (0, some 2)) else (asn1_parseInt64.l0 k l0 0 none 0)) else (some (0, some (t112.getD 0)))) = some (r1, r2) := H
  have A2 := Aside0.mk A20
  clear A20
  rcases t112 with _ | q113
  · have H1 : (if (l0.length : Int) > 8 then (some (0, some 2)) else (asn1_parseInt64.l0 k l0 0 none 0)) = some (r1, r2) := by rw [if_pos (show (none : Option Int).isNone = true by rfl)] at H; exact H
    clear H
    have H := H1
    clear H1
    try simp only [errW_none, errW_some]
    by_cases c3 : (l0.length : Int) > 8
    · rw [if_pos c3] at H
      have c3b0 : decide (8 < (l0.length : Int)) = true := decide_eq_true c3
      have c3b1 : decide (8 < l0.length) = true := decide_eq_true (by omega)
      clear c3
      simp only [Option.some.injEq, Prod.mk.injEq] at H
      obtain ⟨rfl, rfl⟩ := H
      go_enter Try.func90, Try.ntmps90
      go_wp2_with (first | ((with_reducible refine gate_callee (f := 104) rfl ?_); refine goesL_ (some 6) rfl rfl Try.func104 (by kernel_rfl) rfl #[.slice A0 l0.length c0] rfl (by (try simp only [List.map_toArray, List.map_cons, List.map_nil]); first | done | rfl | (simp only [List.length_drop, List.length_take]; rfl)) ?_; (with_reducible refine (asn1_checkInteger.calls _ _ l0 none _ ?side1 ?side2 A2.out).mono ?_); (case side1 => repeat (first | exact HR0.out | (with_reducible refine Kd.C_alloc ?_ _) | (with_reducible refine Kd.C_drewN ?_ _) | (with_reducible refine Kd.C_drew ?_))); (case side2 => exact HC0.out); rintro e w' ⟨rfl, ⟨nd, rfl⟩⟩; refine ⟨_, rfl, ?_⟩; (try simp only [errW_none, errW_some])))
      go_ret2
      exact ⟨by first | rfl | (simp; done) | (simp [*]; done), by repeat (first | exact Drawn0.refl _ | apply Drawn0.step)⟩
    · rw [if_neg c3] at H
      have HL8 : Aside0 ((l0.length : Int) ≤ 8) := ⟨by omega⟩
      have c3b0 : decide (8 < (l0.length : Int)) = false := decide_eq_false c3
      have c3b1 : decide (8 < l0.length) = false := decide_eq_false (by omega)
      clear c3
      have H' := Aside0.mk H
      clear H
      go_enter Try.func90, Try.ntmps90
      go_wp2_with (first | ((with_reducible refine gate_callee (f := 104) rfl ?_); refine goesL_ (some 6) rfl rfl Try.func104 (by kernel_rfl) rfl #[.slice A0 l0.length c0] rfl (by (try simp only [List.map_toArray, List.map_cons, List.map_nil]); first | done | rfl | (simp only [List.length_drop, List.length_take]; rfl)) ?_; (with_reducible refine (asn1_checkInteger.calls _ _ l0 none _ ?side1 ?side2 A2.out).mono ?_); (case side1 => repeat (first | exact HR0.out | (with_reducible refine Kd.C_alloc ?_ _) | (with_reducible refine Kd.C_drewN ?_ _) | (with_reducible refine Kd.C_drew ?_))); (case side2 => exact HC0.out); rintro e w' ⟨rfl, ⟨nd, rfl⟩⟩; refine ⟨_, rfl, ?_⟩; (try simp only [errW_none, errW_some])))
      go_loopg [2, 4] k (fun kq v2 v4 w' => ∃ (x2_1 : Int) (x4_1 : Int), v2 = .int .i64 x2_1 ∧ v4 = .int .i64 x4_1 ∧ Aside0 (asn1_parseInt64.l0 kq l0 x2_1 none x4_1 = some (r1, r2)) ∧ Aside0 (kq ≤ k) ∧ Drawn0 w w')
      case atStart => exact ⟨(0), (0), (by first | rfl | (simp; done) | (simp [*]; done)), (by first | rfl | (simp; done) | (simp [*]; done)), H', ⟨Nat.le_refl _⟩, by repeat (first | exact Drawn0.refl _ | apply Drawn0.step)⟩
      case round =>
        clear H'
        try clear c1
        try clear q1
        try clear p2
        try clear c3
        try clear c3b0
        try clear c3b1
        try clear q113
        obtain ⟨x2_1, x4_1, rfl, rfl, HA, HK1, ⟨m1, rfl⟩⟩ := hrel
        cases gk with
        | zero => exact absurd HA.out (by simp [asn1_parseInt64.l0])
        | succ k1 =>
          have H := HA.out
          clear HA
          simp only [asn1_parseInt64.l0] at H
          by_cases c4 : x4_1 < (l0.length : Int)
          · rw [if_pos c4] at H
            have c4b0 : decide (x4_1 < (l0.length : Int)) = true := decide_eq_true c4
            clear c4
            by_cases c5 : 0 ≤ x4_1
            · rw [if_pos c5] at H
              have c5b0 : decide (0 ≤ x4_1) = true := decide_eq_true c5
              clear c5
              have H' := Aside0.mk H
              clear H
              have p114 : 0 ≤ (x4_1 : Int) := of_decide_eq_true (by first | (with_reducible assumption) | assumption)
              have q114 : x4_1 < (l0.length : Int) := of_decide_eq_true (by first | (with_reducible assumption) | assumption)
              obtain ⟨ad114, e114, hx114_0⟩ := Kd.at_int HR0.out x4_1 p114 q114
              cases e114
              replace p114 := eq_true p114
              replace q114 := eq_true q114
              go_wp2
              go_roundg k1
              case measure => have := HK1.out; omega
              case rel => exact ⟨(Go.bits .or .i64 (wrap64 (x2_1 * 256)) (wrap64 (rd l0 x4_1))), (wrap64 (x4_1 + 1)), (by first | rfl | (simp; done) | (simp [*]; done)), (by first | rfl | (simp; done) | (simp [*]; done)), H', ⟨by have := HK1.out; omega⟩, by repeat (first | exact Drawn0.refl _ | apply Drawn0.step)⟩
            · rw [if_neg c5] at H
              exact absurd H (by simp)
          · rw [if_neg c4] at H
            have c4b0 : decide (x4_1 < (l0.length : Int)) = false := decide_eq_false c4
            clear c4
            obtain ⟨ji6, hji6⟩ : ∃ j_ : Int, (shl .i64 x2_1 ((64 - (((((l0.length : Int)) % 256) * 8) % 256)) % 256)) = j_ := ⟨_, rfl⟩
            replace H : (some (shr .i64 (ji6) ((64 - (((((l0.length : Int)) % 256) * 8) % 256)) % 256), none)) = some (r1, r2) := by first | (rw [hji6] at H; exact H) | (simp only [hji6] at H ⊢; exact H)
            have hji6_ : (IntKind.i64.wrap (x2_1 * 2 ^ min ((64 - (((((l0.length : Int)) % 256) * 8) % 256)) % 256).toNat 64)) = ji6 := hji6
            have hji6z : ((64 - (((((l0.length : Int)) % 256) * 8) % 256)) % 256) ≤ 64 → (IntKind.i64.wrap (x2_1 * 2 ^ ((64 - (((((l0.length : Int)) % 256) * 8) % 256)) % 256).toNat)) = ji6 := shl_small hji6
            have hji6y : (wrap64 (x2_1 * 2 ^ min ((64 - (((((l0.length : Int)) % 256) * 8) % 256)) % 256).toNat 64)) = ji6 := (i64_w _).symm.trans hji6_
            have hji6x : ((64 - (((((l0.length : Int)) % 256) * 8) % 256)) % 256) ≤ 64 → (wrap64 (x2_1 * 2 ^ ((64 - (((((l0.length : Int)) % 256) * 8) % 256)) % 256).toNat)) = ji6 := fun h_ => (i64_w _).symm.trans (hji6z h_)
            obtain ⟨ji7, hji7⟩ : ∃ j_ : Int, (shr .i64 (ji6) ((64 - (((((l0.length : Int)) % 256) * 8) % 256)) % 256)) = j_ := ⟨_, rfl⟩
            replace H : (some (ji7, none)) = some (r1, r2) := by first | (rw [hji7] at H; exact H) | (simp only [hji7] at H ⊢; exact H)
            have hji7_ : ((ji6) / 2 ^ min ((64 - (((((l0.length : Int)) % 256) * 8) % 256)) % 256).toNat 64) = ji7 := hji7
            have hji7z : ((64 - (((((l0.length : Int)) % 256) * 8) % 256)) % 256) ≤ 64 → ((ji6) / 2 ^ ((64 - (((((l0.length : Int)) % 256) * 8) % 256)) % 256).toNat) = ji7 := shr_small hji7
            simp only [Option.some.injEq, Prod.mk.injEq] at H
            obtain ⟨rfl, rfl⟩ := H
            have hcond8 : ((64 - (((((l0.length : Int)) % 256) * 8) % 256)) % 256) ≤ 64 := by have := HL8.out; omega
            have e2_ : Aside0 (64 - l0.length * 8 % 256 = ((64 - (((((l0.length : Int)) % 256) * 8) % 256)) % 256).toNat) := ⟨by have := HL8.out; omega⟩
            have e3_ : Aside0 (64 - l0.length % 256 * 8 % 256 = ((64 - (((((l0.length : Int)) % 256) * 8) % 256)) % 256).toNat) := ⟨by have := HL8.out; omega⟩
            have h6_ := Aside0.mk (hji6x hcond8)
            have h7_ := Aside0.mk (hji7z hcond8)
            go_wp2
            go_ret2
            exact ⟨by first | rfl | (simp only [e2_.out, e3_.out, h6_.out, h7_.out]; rfl) | (rw [e2_.out, e3_.out, h6_.out, h7_.out]; rfl) | (simp only [← hji6, ← hji7] <;> (first | rfl | simp)) | (simp [*]; done), by repeat (first | exact Drawn0.refl _ | apply Drawn0.step)⟩
  · have H1 : (some (0, some q113)) = some (r1, r2) := by rw [if_neg (show ¬ (some q113).isNone = true by simp)] at H; exact H
    clear H
    have H := H1
    clear H1
    try simp only [errW_none, errW_some]
    simp only [Option.some.injEq, Prod.mk.injEq] at H
    obtain ⟨rfl, rfl⟩ := H
    go_enter Try.func90, Try.ntmps90
    go_wp2_with (first | ((with_reducible refine gate_callee (f := 104) rfl ?_); refine goesL_ (some 6) rfl rfl Try.func104 (by kernel_rfl) rfl #[.slice A0 l0.length c0] rfl (by (try simp only [List.map_toArray, List.map_cons, List.map_nil]); first | done | rfl | (simp only [List.length_drop, List.length_take]; rfl)) ?_; (with_reducible refine (asn1_checkInteger.calls _ _ l0 (some q113) _ ?side1 ?side2 A2.out).mono ?_); (case side1 => repeat (first | exact HR0.out | (with_reducible refine Kd.C_alloc ?_ _) | (with_reducible refine Kd.C_drewN ?_ _) | (with_reducible refine Kd.C_drew ?_))); (case side2 => exact HC0.out); rintro e w' ⟨rfl, ⟨nd, rfl⟩⟩; refine ⟨_, rfl, ?_⟩; (try simp only [errW_none, errW_some])))
    go_ret2
    exact ⟨by first | rfl | (simp; done) | (simp [*]; done), by repeat (first | exact Drawn0.refl _ | apply Drawn0.step)⟩

/-! ### asn1_ZZInt64: function 68 -/
def asn1_ZZInt64.f (k : Nat) (l0 : List Int) : Option (Int × Option Int) := (asn1_parseInt64.f k l0).bind fun bt115 => (some (bt115.1, bt115.2))
theorem asn1_ZZInt64.mono : ∀ a0 k, LeO (asn1_ZZInt64.f k a0) (asn1_ZZInt64.f (k + 1) a0) := by
  intro a0 k
  unfold asn1_ZZInt64.f
  repeat' first
      | (with_reducible exact asn1_parseInt64.mono _ _)
      | (with_reducible exact LeO.refl _)
      | (with_reducible exact LeO.none _)
      | (with_reducible refine LeO.ite ?_ ?_)
      | (with_reducible refine LeO.bind ?_ (fun _ => ?_))
      | exact asn1_parseInt64.mono _ _
      | exact LeO.none _
      | refine LeO.ite ?_ ?_
      | refine LeO.bind ?_ (fun _ => ?_)
set_option maxHeartbeats 8000000 in
set_option maxRecDepth 100000 in
theorem asn1_ZZInt64.calls (k : Nat) (A0 : Option Addr) (c0 : Nat) (l0 : List Int) (r1 : Int) (r2 : Option Int) (w : World) (hr0 : Kd.C (Kd.int .u8) w A0 l0.length l0) (hc0 : l0.length ≤ c0) (h : asn1_ZZInt64.f k l0 = some (r1, r2)) :
    Calls Try.prog 68 #[.slice A0 l0.length c0] w fun e w' => e = .returned (.tuple #[.int .i64 r1, errW r2]) ∧ Drawn0 w w' := by
  have HR0 := Aside0.mk hr0
  have HC0 := Aside0.mk hc0
  clear hr0 hc0
  have H : ((asn1_parseInt64.f k l0).bind fun bt115 => (some (bt115.1, bt115.2))) = some (r1, r2) := h
  clear h
  replace H := Option.bind_eq_some_iff.mp H
  obtain ⟨⟨t115, t116⟩, A20, H⟩ := H
  replace H : (some (t115, t116)) = some (r1, r2) := H
  have A2 := Aside0.mk A20
  clear A20
  simp only [Option.some.injEq, Prod.mk.injEq] at H
  obtain ⟨rfl, rfl⟩ := H
  go_enter Try.func68, Try.ntmps68
  go_wp2_with (first | ((with_reducible refine gate_callee (f := 90) rfl ?_); refine goesL_ (some 5) rfl rfl Try.func90 (by kernel_rfl) rfl #[.slice A0 l0.length c0] rfl (by (try simp only [List.map_toArray, List.map_cons, List.map_nil]); first | done | rfl | (simp only [List.length_drop, List.length_take]; rfl)) ?_; (with_reducible refine (asn1_parseInt64.calls k _ _ l0 t115 t116 _ ?side1 ?side2 A2.out).mono ?_); (case side1 => repeat (first | exact HR0.out | (with_reducible refine Kd.C_alloc ?_ _) | (with_reducible refine Kd.C_drewN ?_ _) | (with_reducible refine Kd.C_drew ?_))); (case side2 => exact HC0.out); rintro e w' ⟨rfl, ⟨nd, rfl⟩⟩; refine ⟨_, rfl, ?_⟩; (try simp only [errW_none, errW_some])))
  go_ret2
  exact ⟨by first | rfl | (simp; done) | (simp [*]; done), by repeat (first | exact Drawn0.refl _ | apply Drawn0.step)⟩

end Go.Proofs.Ytmiemfgcggkbnaa.QI
