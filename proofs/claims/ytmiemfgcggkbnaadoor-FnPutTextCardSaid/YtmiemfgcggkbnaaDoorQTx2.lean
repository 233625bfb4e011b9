-- Written by a program of this work (wip/patch_print.py) for this claim.
import Derived.Test.YtmiemfgcggkbnaaDoorQTx0
namespace Go.Proofs.YtmiemfgcggkbnaaDoor.QT
open Go.RowKit Go.Proofs.YtmiemfgcggkbnaaDoorW.PrintWords Go.Proofs.YtmiemfgcggkbnaaDoorW.PrintLast Go.Proofs.YtmiemfgcggkbnaaDoorW.PrintMore
attribute [local go_sem] max2_int min2_int max_two min_two max_three min_three max_four min_four   -- for this text's walks alone
set_option linter.unusedVariables false
set_option linter.unusedSimpArgs false

section
open Go.BigFrame
set_option linter.unusedSimpArgs false
def L12 : List Int := [32, 39, 40, 41, 43, 44, 45, 46, 47, 58, 61, 63]
def ltB (k c : Int) : Bool := if k = 0 then (decide (48 ≤ c ∧ c ≤ 57) || decide (c = 32)) else if k = 1 then (decide (48 ≤ c ∧ c ≤ 57) || decide (97 ≤ c ∧ c ≤ 122) || decide (65 ≤ c ∧ c ≤ 90) || L12.contains c) else decide (c < 128)
def LetTo (w : World) (b : Bool) (e : Ending) (w' : World) : Prop := e = .returned (.bool b) ∧ Below w.heap.size w w'
theorem in12 (k : Nat) (h : k < 12) : L12.contains (rd L12 (k : Int)) = true := by
  rcases (by omega : k = 0 ∨ k = 1 ∨ k = 2 ∨ k = 3 ∨ k = 4 ∨ k = 5 ∨ k = 6 ∨ k = 7 ∨ k = 8 ∨ k = 9 ∨ k = 10 ∨ k = 11) with rfl | rfl | rfl | rfl | rfl | rfl | rfl | rfl | rfl | rfl | rfl | rfl <;> decide
theorem not_in12 (c : Int) (h : ∀ j : Nat, j < 12 → rd L12 (j : Int) ≠ c) : L12.contains c = false := by
  have h0 := h 0 (by omega); have h1 := h 1 (by omega); have h2 := h 2 (by omega); have h3 := h 3 (by omega); have h4 := h 4 (by omega); have h5 := h 5 (by omega)
  have h6 := h 6 (by omega); have h7 := h 7 (by omega); have h8 := h 8 (by omega); have h9 := h 9 (by omega); have h10 := h 10 (by omega); have h11 := h 11 (by omega)
  simp only [rd, L12] at h0 h1 h2 h3 h4 h5 h6 h7 h8 h9 h10 h11
  simp at h0 h1 h2 h3 h4 h5 h6 h7 h8 h9 h10 h11
  simp [L12]
  omega
set_option maxHeartbeats 1000000 in
set_option maxRecDepth 100000 in
theorem lt0_0 (c : Int) (w : World) (h1 : 0 ≤ c) (h2 : c ≤ 31) : Calls Tryd.prog 9 #[.int .i64 0, .int .u8 c] w (LetTo w false) := by
  have q48 : decide (48 ≤ c) = false := decide_eq_false (by omega)
  have q97 : decide (97 ≤ c) = false := decide_eq_false (by omega)
  have q65 : decide (65 ≤ c) = false := decide_eq_false (by omega)
  have q57 : decide (c ≤ 57) = true := decide_eq_true (by omega)
  have q122 : decide (c ≤ 122) = true := decide_eq_true (by omega)
  have q90 : decide (c ≤ 90) = true := decide_eq_true (by omega)
  have q128 : decide (c < 128) = true := decide_eq_true (by omega)
  have q32 : (c == 32) = false := beq_eq_false_iff_ne.mpr (by omega)
  clear h1 h2
  go_enter Tryd.func9, Tryd.ntmps9
  go_wp2
  go_ret
  exact ⟨rfl, Below.refl _ _⟩
set_option maxHeartbeats 1000000 in
set_option maxRecDepth 100000 in
theorem lt0_32 (c : Int) (w : World) (h1 : 32 ≤ c) (h2 : c ≤ 32) : Calls Tryd.prog 9 #[.int .i64 0, .int .u8 c] w (LetTo w true) := by
  have q48 : decide (48 ≤ c) = false := decide_eq_false (by omega)
  have q97 : decide (97 ≤ c) = false := decide_eq_false (by omega)
  have q65 : decide (65 ≤ c) = false := decide_eq_false (by omega)
  have q57 : decide (c ≤ 57) = true := decide_eq_true (by omega)
  have q122 : decide (c ≤ 122) = true := decide_eq_true (by omega)
  have q90 : decide (c ≤ 90) = true := decide_eq_true (by omega)
  have q128 : decide (c < 128) = true := decide_eq_true (by omega)
  have q32 : (c == 32) = true := beq_iff_eq.mpr (by omega)
  clear h1 h2
  go_enter Tryd.func9, Tryd.ntmps9
  go_wp2
  go_ret
  exact ⟨rfl, Below.refl _ _⟩
set_option maxHeartbeats 1000000 in
set_option maxRecDepth 100000 in
theorem lt0_33 (c : Int) (w : World) (h1 : 33 ≤ c) (h2 : c ≤ 47) : Calls Tryd.prog 9 #[.int .i64 0, .int .u8 c] w (LetTo w false) := by
  have q48 : decide (48 ≤ c) = false := decide_eq_false (by omega)
  have q97 : decide (97 ≤ c) = false := decide_eq_false (by omega)
  have q65 : decide (65 ≤ c) = false := decide_eq_false (by omega)
  have q57 : decide (c ≤ 57) = true := decide_eq_true (by omega)
  have q122 : decide (c ≤ 122) = true := decide_eq_true (by omega)
  have q90 : decide (c ≤ 90) = true := decide_eq_true (by omega)
  have q128 : decide (c < 128) = true := decide_eq_true (by omega)
  have q32 : (c == 32) = false := beq_eq_false_iff_ne.mpr (by omega)
  clear h1 h2
  go_enter Tryd.func9, Tryd.ntmps9
  go_wp2
  go_ret
  exact ⟨rfl, Below.refl _ _⟩
set_option maxHeartbeats 1000000 in
set_option maxRecDepth 100000 in
theorem lt0_48 (c : Int) (w : World) (h1 : 48 ≤ c) (h2 : c ≤ 57) : Calls Tryd.prog 9 #[.int .i64 0, .int .u8 c] w (LetTo w true) := by
  have q48 : decide (48 ≤ c) = true := decide_eq_true (by omega)
  have q97 : decide (97 ≤ c) = false := decide_eq_false (by omega)
  have q65 : decide (65 ≤ c) = false := decide_eq_false (by omega)
  have q57 : decide (c ≤ 57) = true := decide_eq_true (by omega)
  have q122 : decide (c ≤ 122) = true := decide_eq_true (by omega)
  have q90 : decide (c ≤ 90) = true := decide_eq_true (by omega)
  have q128 : decide (c < 128) = true := decide_eq_true (by omega)
  have q32 : (c == 32) = false := beq_eq_false_iff_ne.mpr (by omega)
  clear h1 h2
  go_enter Tryd.func9, Tryd.ntmps9
  go_wp2
  go_ret
  exact ⟨rfl, Below.refl _ _⟩
set_option maxHeartbeats 1000000 in
set_option maxRecDepth 100000 in
theorem lt0_58 (c : Int) (w : World) (h1 : 58 ≤ c) (h2 : c ≤ 255) : Calls Tryd.prog 9 #[.int .i64 0, .int .u8 c] w (LetTo w false) := by
  have q48 : decide (48 ≤ c) = true := decide_eq_true (by omega)
  have q57 : decide (c ≤ 57) = false := decide_eq_false (by omega)
  have q32 : (c == 32) = false := beq_eq_false_iff_ne.mpr (by omega)
  clear h1 h2
  go_enter Tryd.func9, Tryd.ntmps9
  go_wp2
  go_ret
  exact ⟨rfl, Below.refl _ _⟩
set_option maxHeartbeats 4000000 in
set_option maxRecDepth 100000 in
theorem lt1_0 (c : Int) (w : World) (h1 : 0 ≤ c) (h2 : c ≤ 47) : Calls Tryd.prog 9 #[.int .i64 1, .int .u8 c] w (LetTo w (L12.contains c)) := by
  have q48 : decide (48 ≤ c) = false := decide_eq_false (by omega)
  have q97 : decide (97 ≤ c) = false := decide_eq_false (by omega)
  have q65 : decide (65 ≤ c) = false := decide_eq_false (by omega)
  have q57 : decide (c ≤ 57) = true := decide_eq_true (by omega)
  have q122 : decide (c ≤ 122) = true := decide_eq_true (by omega)
  have q90 : decide (c ≤ 90) = true := decide_eq_true (by omega)
  clear h1 h2
  have kc := fun (w : World) (C : Array Value) (n c : Nat) => Go.Lib.run_convert_bytes_const (P := Tryd.prog) w 24 5 C n c Tryd.underlying24 Tryd.underlying5
  have HB := Aside0.mk (Below.refl w.heap.size w)
  go_enter Tryd.func9, Tryd.ntmps9
  go_wp2
  generalize hW : w.alloc (.cells #[.int .u8 32, .int .u8 39, .int .u8 40, .int .u8 41, .int .u8 43, .int .u8 44, .int .u8 45, .int .u8 46, .int .u8 47, .int .u8 58, .int .u8 61, .int .u8 63] 5 (12, 13)) = W0
  have HBW := Aside0.mk (show Below w.heap.size w W0 from by rw [← hW]; exact below_alloc HB.out _)
  have HC := Aside0.mk (show ∀ j : Nat, j < 12 → W0.cell? ⟨w.heap.size, j, none⟩ = some (.int .u8 (rd L12 (j : Int))) from by
    intro j hj
    rw [← hW]
    rcases (by omega : j = 0 ∨ j = 1 ∨ j = 2 ∨ j = 3 ∨ j = 4 ∨ j = 5 ∨ j = 6 ∨ j = 7 ∨ j = 8 ∨ j = 9 ∨ j = 10 ∨ j = 11) with rfl | rfl | rfl | rfl | rfl | rfl | rfl | rfl | rfl | rfl | rfl | rfl <;> exact cell_of_row _ w.heap.size _ _ 5 (12, 13) (heap_alloc_new w _))
  clear hW kc HB
  go_loopw [44] (fun v44 wr => ∃ k : Nat, v44 = .int .i64 (k : Int) ∧ Aside0 (k ≤ 12 ∧ ∀ j : Nat, j < k → rd L12 (j : Int) ≠ c) ∧ W0 = wr) (fun v44 _ => 12 - (intOf v44).toNat)
  case atStart => exact ⟨0, rfl, ⟨by omega, fun j h => absurd h (Nat.not_lt_zero _)⟩, rfl⟩
  case round =>
    obtain ⟨k, rfl, HK, rfl⟩ := hrel
    have hk := HK.out.1
    by_cases hlt : k < 12
    · have tl : decide ((k : Int) < 12) = true := decide_eq_true (by omega)
      have hc := HC.out k hlt
      have tq : (k : Int) < 12 := by omega
      by_cases he : c = rd L12 (k : Int)
      · have te : (c == rd L12 (k : Int)) = true := beq_iff_eq.mpr he
        have HE := Aside0.mk (show L12.contains c = true from by rw [he]; exact in12 k hlt)
        clear he
        go_wp2
        go_ret
        exact ⟨by rw [HE.out]; rfl, HBW.out⟩
      · have te : (c == rd L12 (k : Int)) = false := beq_eq_false_iff_ne.mpr he
        have HN := Aside0.mk he
        clear he
        go_wp2
        go_roundw
        case rel =>
          refine ⟨k + 1, by go_num, ⟨by omega, fun j hj => ?_⟩, by first | rfl | trivial⟩
          rcases Nat.lt_or_ge j k with h | h
          · exact HK.out.2 j h
          · rw [show j = k by omega]
            exact fun h9 => HN.out h9.symm
        case measure => simp [intOf]; omega
    · have tl : decide ((k : Int) < 12) = false := decide_eq_false (by omega)
      have HE := Aside0.mk (show L12.contains c = false from not_in12 c fun j hj => HK.out.2 j (by omega))
      go_wp2
      go_ret
      exact ⟨by rw [HE.out]; rfl, HBW.out⟩
set_option maxHeartbeats 1000000 in
set_option maxRecDepth 100000 in
theorem lt1_48 (c : Int) (w : World) (h1 : 48 ≤ c) (h2 : c ≤ 57) : Calls Tryd.prog 9 #[.int .i64 1, .int .u8 c] w (LetTo w true) := by
  have q48 : decide (48 ≤ c) = true := decide_eq_true (by omega)
  have q97 : decide (97 ≤ c) = false := decide_eq_false (by omega)
  have q65 : decide (65 ≤ c) = false := decide_eq_false (by omega)
  have q57 : decide (c ≤ 57) = true := decide_eq_true (by omega)
  have q122 : decide (c ≤ 122) = true := decide_eq_true (by omega)
  have q90 : decide (c ≤ 90) = true := decide_eq_true (by omega)
  have q128 : decide (c < 128) = true := decide_eq_true (by omega)
  have q32 : (c == 32) = false := beq_eq_false_iff_ne.mpr (by omega)
  clear h1 h2
  go_enter Tryd.func9, Tryd.ntmps9
  go_wp2
  go_ret
  exact ⟨rfl, Below.refl _ _⟩
set_option maxHeartbeats 4000000 in
set_option maxRecDepth 100000 in
theorem lt1_58 (c : Int) (w : World) (h1 : 58 ≤ c) (h2 : c ≤ 64) : Calls Tryd.prog 9 #[.int .i64 1, .int .u8 c] w (LetTo w (L12.contains c)) := by
  have q48 : decide (48 ≤ c) = true := decide_eq_true (by omega)
  have q97 : decide (97 ≤ c) = false := decide_eq_false (by omega)
  have q65 : decide (65 ≤ c) = false := decide_eq_false (by omega)
  have q57 : decide (c ≤ 57) = false := decide_eq_false (by omega)
  have q122 : decide (c ≤ 122) = true := decide_eq_true (by omega)
  have q90 : decide (c ≤ 90) = true := decide_eq_true (by omega)
  clear h1 h2
  have kc := fun (w : World) (C : Array Value) (n c : Nat) => Go.Lib.run_convert_bytes_const (P := Tryd.prog) w 24 5 C n c Tryd.underlying24 Tryd.underlying5
  have HB := Aside0.mk (Below.refl w.heap.size w)
  go_enter Tryd.func9, Tryd.ntmps9
  go_wp2
  generalize hW : w.alloc (.cells #[.int .u8 32, .int .u8 39, .int .u8 40, .int .u8 41, .int .u8 43, .int .u8 44, .int .u8 45, .int .u8 46, .int .u8 47, .int .u8 58, .int .u8 61, .int .u8 63] 5 (12, 13)) = W0
  have HBW := Aside0.mk (show Below w.heap.size w W0 from by rw [← hW]; exact below_alloc HB.out _)
  have HC := Aside0.mk (show ∀ j : Nat, j < 12 → W0.cell? ⟨w.heap.size, j, none⟩ = some (.int .u8 (rd L12 (j : Int))) from by
    intro j hj
    rw [← hW]
    rcases (by omega : j = 0 ∨ j = 1 ∨ j = 2 ∨ j = 3 ∨ j = 4 ∨ j = 5 ∨ j = 6 ∨ j = 7 ∨ j = 8 ∨ j = 9 ∨ j = 10 ∨ j = 11) with rfl | rfl | rfl | rfl | rfl | rfl | rfl | rfl | rfl | rfl | rfl | rfl <;> exact cell_of_row _ w.heap.size _ _ 5 (12, 13) (heap_alloc_new w _))
  clear hW kc HB
  go_loopw [44] (fun v44 wr => ∃ k : Nat, v44 = .int .i64 (k : Int) ∧ Aside0 (k ≤ 12 ∧ ∀ j : Nat, j < k → rd L12 (j : Int) ≠ c) ∧ W0 = wr) (fun v44 _ => 12 - (intOf v44).toNat)
  case atStart => exact ⟨0, rfl, ⟨by omega, fun j h => absurd h (Nat.not_lt_zero _)⟩, rfl⟩
  case round =>
    obtain ⟨k, rfl, HK, rfl⟩ := hrel
    have hk := HK.out.1
    by_cases hlt : k < 12
    · have tl : decide ((k : Int) < 12) = true := decide_eq_true (by omega)
      have hc := HC.out k hlt
      have tq : (k : Int) < 12 := by omega
      by_cases he : c = rd L12 (k : Int)
      · have te : (c == rd L12 (k : Int)) = true := beq_iff_eq.mpr he
        have HE := Aside0.mk (show L12.contains c = true from by rw [he]; exact in12 k hlt)
        clear he
        go_wp2
        go_ret
        exact ⟨by rw [HE.out]; rfl, HBW.out⟩
      · have te : (c == rd L12 (k : Int)) = false := beq_eq_false_iff_ne.mpr he
        have HN := Aside0.mk he
        clear he
        go_wp2
        go_roundw
        case rel =>
          refine ⟨k + 1, by go_num, ⟨by omega, fun j hj => ?_⟩, by first | rfl | trivial⟩
          rcases Nat.lt_or_ge j k with h | h
          · exact HK.out.2 j h
          · rw [show j = k by omega]
            exact fun h9 => HN.out h9.symm
        case measure => simp [intOf]; omega
    · have tl : decide ((k : Int) < 12) = false := decide_eq_false (by omega)
      have HE := Aside0.mk (show L12.contains c = false from not_in12 c fun j hj => HK.out.2 j (by omega))
      go_wp2
      go_ret
      exact ⟨by rw [HE.out]; rfl, HBW.out⟩
set_option maxHeartbeats 1000000 in
set_option maxRecDepth 100000 in
theorem lt1_65 (c : Int) (w : World) (h1 : 65 ≤ c) (h2 : c ≤ 90) : Calls Tryd.prog 9 #[.int .i64 1, .int .u8 c] w (LetTo w true) := by
  have q48 : decide (48 ≤ c) = true := decide_eq_true (by omega)
  have q97 : decide (97 ≤ c) = false := decide_eq_false (by omega)
  have q65 : decide (65 ≤ c) = true := decide_eq_true (by omega)
  have q57 : decide (c ≤ 57) = false := decide_eq_false (by omega)
  have q122 : decide (c ≤ 122) = true := decide_eq_true (by omega)
  have q90 : decide (c ≤ 90) = true := decide_eq_true (by omega)
  have q128 : decide (c < 128) = true := decide_eq_true (by omega)
  have q32 : (c == 32) = false := beq_eq_false_iff_ne.mpr (by omega)
  clear h1 h2
  go_enter Tryd.func9, Tryd.ntmps9
  go_wp2
  go_ret
  exact ⟨rfl, Below.refl _ _⟩
set_option maxHeartbeats 4000000 in
set_option maxRecDepth 100000 in
theorem lt1_91 (c : Int) (w : World) (h1 : 91 ≤ c) (h2 : c ≤ 96) : Calls Tryd.prog 9 #[.int .i64 1, .int .u8 c] w (LetTo w (L12.contains c)) := by
  have q48 : decide (48 ≤ c) = true := decide_eq_true (by omega)
  have q97 : decide (97 ≤ c) = false := decide_eq_false (by omega)
  have q65 : decide (65 ≤ c) = true := decide_eq_true (by omega)
  have q57 : decide (c ≤ 57) = false := decide_eq_false (by omega)
  have q122 : decide (c ≤ 122) = true := decide_eq_true (by omega)
  have q90 : decide (c ≤ 90) = false := decide_eq_false (by omega)
  clear h1 h2
  have kc := fun (w : World) (C : Array Value) (n c : Nat) => Go.Lib.run_convert_bytes_const (P := Tryd.prog) w 24 5 C n c Tryd.underlying24 Tryd.underlying5
  have HB := Aside0.mk (Below.refl w.heap.size w)
  go_enter Tryd.func9, Tryd.ntmps9
  go_wp2
  generalize hW : w.alloc (.cells #[.int .u8 32, .int .u8 39, .int .u8 40, .int .u8 41, .int .u8 43, .int .u8 44, .int .u8 45, .int .u8 46, .int .u8 47, .int .u8 58, .int .u8 61, .int .u8 63] 5 (12, 13)) = W0
  have HBW := Aside0.mk (show Below w.heap.size w W0 from by rw [← hW]; exact below_alloc HB.out _)
  have HC := Aside0.mk (show ∀ j : Nat, j < 12 → W0.cell? ⟨w.heap.size, j, none⟩ = some (.int .u8 (rd L12 (j : Int))) from by
    intro j hj
    rw [← hW]
    rcases (by omega : j = 0 ∨ j = 1 ∨ j = 2 ∨ j = 3 ∨ j = 4 ∨ j = 5 ∨ j = 6 ∨ j = 7 ∨ j = 8 ∨ j = 9 ∨ j = 10 ∨ j = 11) with rfl | rfl | rfl | rfl | rfl | rfl | rfl | rfl | rfl | rfl | rfl | rfl <;> exact cell_of_row _ w.heap.size _ _ 5 (12, 13) (heap_alloc_new w _))
  clear hW kc HB
  go_loopw [44] (fun v44 wr => ∃ k : Nat, v44 = .int .i64 (k : Int) ∧ Aside0 (k ≤ 12 ∧ ∀ j : Nat, j < k → rd L12 (j : Int) ≠ c) ∧ W0 = wr) (fun v44 _ => 12 - (intOf v44).toNat)
  case atStart => exact ⟨0, rfl, ⟨by omega, fun j h => absurd h (Nat.not_lt_zero _)⟩, rfl⟩
  case round =>
    obtain ⟨k, rfl, HK, rfl⟩ := hrel
    have hk := HK.out.1
    by_cases hlt : k < 12
    · have tl : decide ((k : Int) < 12) = true := decide_eq_true (by omega)
      have hc := HC.out k hlt
      have tq : (k : Int) < 12 := by omega
      by_cases he : c = rd L12 (k : Int)
      · have te : (c == rd L12 (k : Int)) = true := beq_iff_eq.mpr he
        have HE := Aside0.mk (show L12.contains c = true from by rw [he]; exact in12 k hlt)
        clear he
        go_wp2
        go_ret
        exact ⟨by rw [HE.out]; rfl, HBW.out⟩
      · have te : (c == rd L12 (k : Int)) = false := beq_eq_false_iff_ne.mpr he
        have HN := Aside0.mk he
        clear he
        go_wp2
        go_roundw
        case rel =>
          refine ⟨k + 1, by go_num, ⟨by omega, fun j hj => ?_⟩, by first | rfl | trivial⟩
          rcases Nat.lt_or_ge j k with h | h
          · exact HK.out.2 j h
          · rw [show j = k by omega]
            exact fun h9 => HN.out h9.symm
        case measure => simp [intOf]; omega
    · have tl : decide ((k : Int) < 12) = false := decide_eq_false (by omega)
      have HE := Aside0.mk (show L12.contains c = false from not_in12 c fun j hj => HK.out.2 j (by omega))
      go_wp2
      go_ret
      exact ⟨by rw [HE.out]; rfl, HBW.out⟩
set_option maxHeartbeats 1000000 in
set_option maxRecDepth 100000 in
theorem lt1_97 (c : Int) (w : World) (h1 : 97 ≤ c) (h2 : c ≤ 122) : Calls Tryd.prog 9 #[.int .i64 1, .int .u8 c] w (LetTo w true) := by
  have q48 : decide (48 ≤ c) = true := decide_eq_true (by omega)
  have q97 : decide (97 ≤ c) = true := decide_eq_true (by omega)
  have q65 : decide (65 ≤ c) = true := decide_eq_true (by omega)
  have q57 : decide (c ≤ 57) = false := decide_eq_false (by omega)
  have q122 : decide (c ≤ 122) = true := decide_eq_true (by omega)
  have q90 : decide (c ≤ 90) = false := decide_eq_false (by omega)
  have q128 : decide (c < 128) = true := decide_eq_true (by omega)
  have q32 : (c == 32) = false := beq_eq_false_iff_ne.mpr (by omega)
  clear h1 h2
  go_enter Tryd.func9, Tryd.ntmps9
  go_wp2
  go_ret
  exact ⟨rfl, Below.refl _ _⟩
set_option maxHeartbeats 4000000 in
set_option maxRecDepth 100000 in
theorem lt1_123 (c : Int) (w : World) (h1 : 123 ≤ c) (h2 : c ≤ 255) : Calls Tryd.prog 9 #[.int .i64 1, .int .u8 c] w (LetTo w (L12.contains c)) := by
  have q48 : decide (48 ≤ c) = true := decide_eq_true (by omega)
  have q97 : decide (97 ≤ c) = true := decide_eq_true (by omega)
  have q65 : decide (65 ≤ c) = true := decide_eq_true (by omega)
  have q57 : decide (c ≤ 57) = false := decide_eq_false (by omega)
  have q122 : decide (c ≤ 122) = false := decide_eq_false (by omega)
  have q90 : decide (c ≤ 90) = false := decide_eq_false (by omega)
  clear h1 h2
  have kc := fun (w : World) (C : Array Value) (n c : Nat) => Go.Lib.run_convert_bytes_const (P := Tryd.prog) w 24 5 C n c Tryd.underlying24 Tryd.underlying5
  have HB := Aside0.mk (Below.refl w.heap.size w)
  go_enter Tryd.func9, Tryd.ntmps9
  go_wp2
  generalize hW : w.alloc (.cells #[.int .u8 32, .int .u8 39, .int .u8 40, .int .u8 41, .int .u8 43, .int .u8 44, .int .u8 45, .int .u8 46, .int .u8 47, .int .u8 58, .int .u8 61, .int .u8 63] 5 (12, 13)) = W0
  have HBW := Aside0.mk (show Below w.heap.size w W0 from by rw [← hW]; exact below_alloc HB.out _)
  have HC := Aside0.mk (show ∀ j : Nat, j < 12 → W0.cell? ⟨w.heap.size, j, none⟩ = some (.int .u8 (rd L12 (j : Int))) from by
    intro j hj
    rw [← hW]
    rcases (by omega : j = 0 ∨ j = 1 ∨ j = 2 ∨ j = 3 ∨ j = 4 ∨ j = 5 ∨ j = 6 ∨ j = 7 ∨ j = 8 ∨ j = 9 ∨ j = 10 ∨ j = 11) with rfl | rfl | rfl | rfl | rfl | rfl | rfl | rfl | rfl | rfl | rfl | rfl <;> exact cell_of_row _ w.heap.size _ _ 5 (12, 13) (heap_alloc_new w _))
  clear hW kc HB
  go_loopw [44] (fun v44 wr => ∃ k : Nat, v44 = .int .i64 (k : Int) ∧ Aside0 (k ≤ 12 ∧ ∀ j : Nat, j < k → rd L12 (j : Int) ≠ c) ∧ W0 = wr) (fun v44 _ => 12 - (intOf v44).toNat)
  case atStart => exact ⟨0, rfl, ⟨by omega, fun j h => absurd h (Nat.not_lt_zero _)⟩, rfl⟩
  case round =>
    obtain ⟨k, rfl, HK, rfl⟩ := hrel
    have hk := HK.out.1
    by_cases hlt : k < 12
    · have tl : decide ((k : Int) < 12) = true := decide_eq_true (by omega)
      have hc := HC.out k hlt
      have tq : (k : Int) < 12 := by omega
      by_cases he : c = rd L12 (k : Int)
      · have te : (c == rd L12 (k : Int)) = true := beq_iff_eq.mpr he
        have HE := Aside0.mk (show L12.contains c = true from by rw [he]; exact in12 k hlt)
        clear he
        go_wp2
        go_ret
        exact ⟨by rw [HE.out]; rfl, HBW.out⟩
      · have te : (c == rd L12 (k : Int)) = false := beq_eq_false_iff_ne.mpr he
        have HN := Aside0.mk he
        clear he
        go_wp2
        go_roundw
        case rel =>
          refine ⟨k + 1, by go_num, ⟨by omega, fun j hj => ?_⟩, by first | rfl | trivial⟩
          rcases Nat.lt_or_ge j k with h | h
          · exact HK.out.2 j h
          · rw [show j = k by omega]
            exact fun h9 => HN.out h9.symm
        case measure => simp [intOf]; omega
    · have tl : decide ((k : Int) < 12) = false := decide_eq_false (by omega)
      have HE := Aside0.mk (show L12.contains c = false from not_in12 c fun j hj => HK.out.2 j (by omega))
      go_wp2
      go_ret
      exact ⟨by rw [HE.out]; rfl, HBW.out⟩
set_option maxHeartbeats 1000000 in
set_option maxRecDepth 100000 in
theorem lt2_0 (c : Int) (w : World) (h1 : 0 ≤ c) (h2 : c ≤ 47) : Calls Tryd.prog 9 #[.int .i64 2, .int .u8 c] w (LetTo w true) := by
  have q48 : decide (48 ≤ c) = false := decide_eq_false (by omega)
  have q97 : decide (97 ≤ c) = false := decide_eq_false (by omega)
  have q65 : decide (65 ≤ c) = false := decide_eq_false (by omega)
  have q57 : decide (c ≤ 57) = true := decide_eq_true (by omega)
  have q122 : decide (c ≤ 122) = true := decide_eq_true (by omega)
  have q90 : decide (c ≤ 90) = true := decide_eq_true (by omega)
  have q128 : decide (c < 128) = true := decide_eq_true (by omega)
  clear h1 h2
  go_enter Tryd.func9, Tryd.ntmps9
  go_wp2
  go_ret
  exact ⟨rfl, Below.refl _ _⟩
set_option maxHeartbeats 1000000 in
set_option maxRecDepth 100000 in
theorem lt2_48 (c : Int) (w : World) (h1 : 48 ≤ c) (h2 : c ≤ 57) : Calls Tryd.prog 9 #[.int .i64 2, .int .u8 c] w (LetTo w true) := by
  have q48 : decide (48 ≤ c) = true := decide_eq_true (by omega)
  have q97 : decide (97 ≤ c) = false := decide_eq_false (by omega)
  have q65 : decide (65 ≤ c) = false := decide_eq_false (by omega)
  have q57 : decide (c ≤ 57) = true := decide_eq_true (by omega)
  have q122 : decide (c ≤ 122) = true := decide_eq_true (by omega)
  have q90 : decide (c ≤ 90) = true := decide_eq_true (by omega)
  have q128 : decide (c < 128) = true := decide_eq_true (by omega)
  have q32 : (c == 32) = false := beq_eq_false_iff_ne.mpr (by omega)
  clear h1 h2
  go_enter Tryd.func9, Tryd.ntmps9
  go_wp2
  go_ret
  exact ⟨rfl, Below.refl _ _⟩
set_option maxHeartbeats 1000000 in
set_option maxRecDepth 100000 in
theorem lt2_58 (c : Int) (w : World) (h1 : 58 ≤ c) (h2 : c ≤ 127) : Calls Tryd.prog 9 #[.int .i64 2, .int .u8 c] w (LetTo w true) := by
  have q48 : decide (48 ≤ c) = true := decide_eq_true (by omega)
  have q57 : decide (c ≤ 57) = false := decide_eq_false (by omega)
  have q128 : decide (c < 128) = true := decide_eq_true (by omega)
  have q32 : (c == 32) = false := beq_eq_false_iff_ne.mpr (by omega)
  clear h1 h2
  go_enter Tryd.func9, Tryd.ntmps9
  go_wp2
  go_ret
  exact ⟨rfl, Below.refl _ _⟩
set_option maxHeartbeats 1000000 in
set_option maxRecDepth 100000 in
theorem lt2_128 (c : Int) (w : World) (h1 : 128 ≤ c) (h2 : c ≤ 255) : Calls Tryd.prog 9 #[.int .i64 2, .int .u8 c] w (LetTo w false) := by
  have q48 : decide (48 ≤ c) = true := decide_eq_true (by omega)
  have q97 : decide (97 ≤ c) = true := decide_eq_true (by omega)
  have q65 : decide (65 ≤ c) = true := decide_eq_true (by omega)
  have q57 : decide (c ≤ 57) = false := decide_eq_false (by omega)
  have q122 : decide (c ≤ 122) = false := decide_eq_false (by omega)
  have q90 : decide (c ≤ 90) = false := decide_eq_false (by omega)
  have q128 : decide (c < 128) = false := decide_eq_false (by omega)
  have q32 : (c == 32) = false := beq_eq_false_iff_ne.mpr (by omega)
  clear h1 h2
  go_enter Tryd.func9, Tryd.ntmps9
  go_wp2
  go_ret
  exact ⟨rfl, Below.refl _ _⟩
theorem letter_any (k c : Int) (w : World) (hk : k = 0 ∨ k = 1 ∨ k = 2) (h0 : 0 ≤ c) (h255 : c ≤ 255) : Calls Tryd.prog 9 #[.int .i64 k, .int .u8 c] w (LetTo w (ltB k c)) := by
  rcases hk with rfl | rfl | rfl
  · unfold ltB
    rw [if_pos rfl]
    by_cases h100 : c ≤ 31
    case pos =>
      rw [show (decide (48 ≤ c ∧ c ≤ 57) || decide (c = 32)) = false from by simp; omega]
      exact lt0_0 c w (by omega) h100
    by_cases h101 : c ≤ 32
    case pos =>
      rw [show (decide (48 ≤ c ∧ c ≤ 57) || decide (c = 32)) = true from by simp; omega]
      exact lt0_32 c w (by omega) h101
    by_cases h102 : c ≤ 47
    case pos =>
      rw [show (decide (48 ≤ c ∧ c ≤ 57) || decide (c = 32)) = false from by simp; omega]
      exact lt0_33 c w (by omega) h102
    by_cases h103 : c ≤ 57
    case pos =>
      rw [show (decide (48 ≤ c ∧ c ≤ 57) || decide (c = 32)) = true from by simp; omega]
      exact lt0_48 c w (by omega) h103
    by_cases h104 : c ≤ 255
    case pos =>
      rw [show (decide (48 ≤ c ∧ c ≤ 57) || decide (c = 32)) = false from by simp; omega]
      exact lt0_58 c w (by omega) h104
    omega
  · unfold ltB
    rw [if_neg (by decide), if_pos rfl]
    by_cases h100 : c ≤ 47
    case pos =>
      rw [show (decide (48 ≤ c ∧ c ≤ 57) || decide (97 ≤ c ∧ c ≤ 122) || decide (65 ≤ c ∧ c ≤ 90) || L12.contains c) = L12.contains c from by rw [decide_eq_false (by omega), decide_eq_false (by omega), decide_eq_false (by omega)]; simp]
      exact lt1_0 c w (by omega) h100
    by_cases h101 : c ≤ 57
    case pos =>
      rw [show (decide (48 ≤ c ∧ c ≤ 57) || decide (97 ≤ c ∧ c ≤ 122) || decide (65 ≤ c ∧ c ≤ 90) || L12.contains c) = true from by rw [decide_eq_true (show 48 ≤ c ∧ c ≤ 57 by omega)]; simp]
      exact lt1_48 c w (by omega) h101
    by_cases h102 : c ≤ 64
    case pos =>
      rw [show (decide (48 ≤ c ∧ c ≤ 57) || decide (97 ≤ c ∧ c ≤ 122) || decide (65 ≤ c ∧ c ≤ 90) || L12.contains c) = L12.contains c from by rw [decide_eq_false (by omega), decide_eq_false (by omega), decide_eq_false (by omega)]; simp]
      exact lt1_58 c w (by omega) h102
    by_cases h103 : c ≤ 90
    case pos =>
      rw [show (decide (48 ≤ c ∧ c ≤ 57) || decide (97 ≤ c ∧ c ≤ 122) || decide (65 ≤ c ∧ c ≤ 90) || L12.contains c) = true from by rw [decide_eq_true (show 65 ≤ c ∧ c ≤ 90 by omega)]; simp]
      exact lt1_65 c w (by omega) h103
    by_cases h104 : c ≤ 96
    case pos =>
      rw [show (decide (48 ≤ c ∧ c ≤ 57) || decide (97 ≤ c ∧ c ≤ 122) || decide (65 ≤ c ∧ c ≤ 90) || L12.contains c) = L12.contains c from by rw [decide_eq_false (by omega), decide_eq_false (by omega), decide_eq_false (by omega)]; simp]
      exact lt1_91 c w (by omega) h104
    by_cases h105 : c ≤ 122
    case pos =>
      rw [show (decide (48 ≤ c ∧ c ≤ 57) || decide (97 ≤ c ∧ c ≤ 122) || decide (65 ≤ c ∧ c ≤ 90) || L12.contains c) = true from by rw [decide_eq_true (show 97 ≤ c ∧ c ≤ 122 by omega)]; simp]
      exact lt1_97 c w (by omega) h105
    by_cases h106 : c ≤ 255
    case pos =>
      rw [show (decide (48 ≤ c ∧ c ≤ 57) || decide (97 ≤ c ∧ c ≤ 122) || decide (65 ≤ c ∧ c ≤ 90) || L12.contains c) = L12.contains c from by rw [decide_eq_false (by omega), decide_eq_false (by omega), decide_eq_false (by omega)]; simp]
      exact lt1_123 c w (by omega) h106
    omega
  · unfold ltB
    rw [if_neg (by decide), if_neg (by decide)]
    by_cases h100 : c ≤ 47
    case pos =>
      rw [show (decide (c < 128)) = true from by simp; omega]
      exact lt2_0 c w (by omega) h100
    by_cases h101 : c ≤ 57
    case pos =>
      rw [show (decide (c < 128)) = true from by simp; omega]
      exact lt2_48 c w (by omega) h101
    by_cases h102 : c ≤ 127
    case pos =>
      rw [show (decide (c < 128)) = true from by simp; omega]
      exact lt2_58 c w (by omega) h102
    by_cases h103 : c ≤ 255
    case pos =>
      rw [show (decide (c < 128)) = false from by simp; omega]
      exact lt2_128 c w (by omega) h103
    omega
end

def spec_letter.f (a0 : Int) (a1 : Int) : Option Bool := if (a0 = 0 ∨ a0 = 1 ∨ a0 = 2) ∧ (0 ≤ a1 ∧ a1 ≤ 255) then some (ltB a0 a1) else none
theorem spec_letter.calls (a0 : Int) (a1 : Int) (r : Bool) (w : World) (h : spec_letter.f a0 a1 = some r) :
    Calls Tryd.prog 9 #[.int .i64 a0, .int .u8 a1] w fun e w' => e = .returned (.bool r) ∧ Below w.heap.size w w' := by
  unfold spec_letter.f at h
  by_cases c : (a0 = 0 ∨ a0 = 1 ∨ a0 = 2) ∧ (0 ≤ a1 ∧ a1 ≤ 255)
  · rw [if_pos c] at h
    obtain rfl := Option.some.inj h
    exact letter_any a0 a1 w c.1 c.2.1 c.2.2
  · rw [if_neg c] at h
    cases h

/-! ### spec_put: function 14 -/
def spec_put.f (l0 : List Int) (a1 : Int) : Option (List Int) := if a1 < 128 then (if l0.length < 140737488355328 then (some (l0 ++ [(a1) % 256])) else (none)) else (if a1 < 2048 then ((some (([(Go.bits .or .i64 192 (a1 / 64)) % 256, (Go.bits .or .i64 128 (Go.bits .and .i64 a1 63)) % 256] : List Int) : List Int)).bind fun y169 => (if l0.length + y169.length < 140737488355328 then (some (l0 ++ y169)) else (none))) else ((some (([(Go.bits .or .i64 224 (a1 / 4096)) % 256, (Go.bits .or .i64 128 (Go.bits .and .i64 (a1 / 64) 63)) % 256, (Go.bits .or .i64 128 (Go.bits .and .i64 a1 63)) % 256] : List Int) : List Int)).bind fun y175 => (if l0.length + y175.length < 140737488355328 then (some (l0 ++ y175)) else (none))))
set_option maxHeartbeats 8000000 in
set_option maxRecDepth 100000 in
theorem spec_put.calls (P0_ : Nat → Prop) (u9000_ : Value) (l0 : List Int) (a1 : Int) (r : List Int) (w0 w : World) (hB : Below w0.heap.size w0 w) (ho0 : Kd.R (Kd.int .u8) 5 w w0.heap.size P0_ u9000_ l0) (h : spec_put.f l0 a1 = some r) :
    Calls Tryd.prog 14 #[u9000_, .int .i64 a1] w fun e w' => ∃ v0_ : Value, e = .returned (v0_) ∧ Kd.R (Kd.int .u8) 5 w' w0.heap.size (fun k_ => (P0_ k_ ∨ w.heap.size ≤ k_)) v0_ r ∧ Below w0.heap.size w0 w' ∧ Kept w w' (fun k_ => P0_ k_) := by
  have HO0 := Aside0.mk (show Kd.R (Kd.int .u8) 5 w w0.heap.size (fun k_ => (P0_ k_ ∨ w.heap.size ≤ k_)) u9000_ l0 from Kd.R_mono ho0 (fun k_ hk => (.inl hk)))
  have HK := Aside0.mk (Kept.refl w (fun k_ => P0_ k_))
  have HW0 := Aside0.mk hB.size
  have HB := Aside0.mk hB
  clear hB
  have H : (if a1 < 128 then (if l0.length < 140737488355328 then (some (l0 ++ [(a1) % 256])) else (none)) else (if a1 < 2048 then ((some (([(Go.bits .or .i64 192 (a1 / 64)) % 256, (Go.bits .or .i64 128 (Go.bits .and .i64 a1 63)) % 256] : List Int) : List Int)).bind fun y169 => (if l0.length + y169.length < 140737488355328 then (some (l0 ++ y169)) else (none))) else ((some (([(Go.bits .or .i64 224 (a1 / 4096)) % 256, (Go.bits .or .i64 128 (Go.bits .and .i64 (a1 / 64) 63)) % 256, (Go.bits .or .i64 128 (Go.bits .and .i64 a1 63)) % 256] : List Int) : List Int)).bind fun y175 => (if l0.length + y175.length < 140737488355328 then (some (l0 ++ y175)) else (none))))) = some r := h
  clear h
  by_cases c3 : a1 < 128
  · rw [if_pos c3] at H
    have c3b0 : decide (a1 < 128) = true := decide_eq_true c3
    clear c3
    by_cases c4 : l0.length < 140737488355328
    · rw [if_pos c4] at H
      have LMc4 := Aside0.mk c4
      clear c4
      obtain ⟨y166, hy166⟩ : ∃ y_ : List Int, y_ = (l0 ++ [(a1) % 256]) := ⟨_, rfl⟩
      replace H : (some y166) = some r := by first | (rw [hy166]; with_reducible exact H) | (have H2_ := (Option.bind_some _ _).symm.trans H; rw [hy166]; with_reducible exact H2_) | (have H2_ := (Option.bind_some _ _).symm.trans H; with_reducible exact H2_) | with_reducible exact H | (rw [hy166]; exact H) | exact H
      have Ny166 := Aside0.mk hy166
      clear hy166
      obtain rfl := Option.some.inj H
      go_enter Tryd.func14, Tryd.ntmps14
      go_wp2_with (first | ((with_reducible refine gate_builtin (b := .append) (xs := #[.tmp 8, .tmp 11]) rfl ?_); at_builtin; refine Kd.R_append (Kd.int .u8) (w0 := w0) w0.heap.size rfl (.tmp 8) (.tmp 11) 24 5 (.int .u8 0) 1 rfl Tryd.underlying24 info5 rfl (by decide) (by omega) u9000_ l0 ((a1) % 256) [.int .u8 ((a1) % 256)] (fun k_ => (P0_ k_ ∨ w.heap.size ≤ k_)) (fun _ => False) rfl rfl ?aP (fun _ hk => hk.elim) ?aF ?aO ?aB ?aS ?aL ?_; (case aP => exact rfl); (case aB => exact (by repeat (first | (with_reducible first | exact HB.out | apply below_alloc | apply pw_below_drewN | apply below_drew1) | exact HB.out))); (case aF => exact (fun k_ hk => (.inr (Nat.le_trans (by first | exact HK.out.1 | exact (show Kept w _ (fun k_ => P0_ k_) from by repeat (first | (with_reducible first | exact HK.out | apply Kept.alloc | apply Kept.drewN | apply Kept.drew) | exact HK.out)).1) hk)))); (case aO => exact (by (with_reducible repeat (first | apply Kd.R_alloc | apply Kd.R_drewN | apply Kd.R_drew)); exact HO0.out)); (case aS => exact (below_size (by repeat (first | (with_reducible first | exact HB.out | apply below_alloc | apply pw_below_drewN | apply below_drew1) | exact HB.out)))); (case aL => have := LMc4.out; omega); intro v167 w5 ho hb hg hat; rw [← Ny166.out] at ho; have n0_ := Aside0.mk (hb); have n1_ := Aside0.mk (Kept.of_grown (S := (fun k_ => P0_ k_)) hg (by repeat (first | (with_reducible first | exact HK.out | apply Kept.alloc | apply Kept.drewN | apply Kept.drew) | exact HK.out)) (fun k_ e_ => (HO0.out.1 k_ e_))); have n2_ := Aside0.mk (ho); clear HB; clear HK; clear HO0; have HB := n0_; have HK := n1_; have HO168 := n2_; clear n0_ n1_ n2_; clear ho hb hg hat))
      go_ret
      exact ⟨_, by first | rfl | (simp [errW_none, errW_some] <;> rfl) | (simp [*, errW_none, errW_some] <;> rfl), by (with_reducible repeat (first | apply Kd.R_alloc | apply Kd.R_drewN | apply Kd.R_drew)); exact HO168.out, by repeat (first | (with_reducible first | exact HB.out | apply below_alloc | apply pw_below_drewN | apply below_drew1) | exact HB.out), by repeat (first | (with_reducible first | exact HK.out | apply Kept.alloc | apply Kept.drewN | apply Kept.drew) | exact HK.out)⟩
    · rw [if_neg c4] at H
      exact absurd H (by simp)
  · rw [if_neg c3] at H
    have c3b0 : decide (a1 < 128) = false := decide_eq_false c3
    clear c3
    by_cases c6 : a1 < 2048
    · rw [if_pos c6] at H
      have c6b0 : decide (a1 < 2048) = true := decide_eq_true c6
      clear c6
      obtain ⟨y169, hy169⟩ : ∃ y_ : List Int, y_ = (([(Go.bits .or .i64 192 (a1 / 64)) % 256, (Go.bits .or .i64 128 (Go.bits .and .i64 a1 63)) % 256] : List Int)) := ⟨_, rfl⟩
      replace H : (if l0.length + y169.length < 140737488355328 then (some (l0 ++ y169)) else (none)) = some r := by first | (rw [hy169]; with_reducible exact H) | (have H2_ := (Option.bind_some _ _).symm.trans H; rw [hy169]; with_reducible exact H2_) | (have H2_ := (Option.bind_some _ _).symm.trans H; with_reducible exact H2_) | with_reducible exact H | (rw [hy169]; exact H) | exact H
      have Ny169 := Aside0.mk hy169
      clear hy169
      by_cases c7 : l0.length + y169.length < 140737488355328
      · rw [if_pos c7] at H
        have LMc7 := Aside0.mk c7
        clear c7
        obtain ⟨y172, hy172⟩ : ∃ y_ : List Int, y_ = (l0 ++ y169) := ⟨_, rfl⟩
        replace H : (some y172) = some r := by first | (rw [hy172]; with_reducible exact H) | (have H2_ := (Option.bind_some _ _).symm.trans H; rw [hy172]; with_reducible exact H2_) | (have H2_ := (Option.bind_some _ _).symm.trans H; with_reducible exact H2_) | with_reducible exact H | (rw [hy172]; exact H) | exact H
        have Ny172 := Aside0.mk hy172
        clear hy172
        obtain rfl := Option.some.inj H
        go_enter Tryd.func14, Tryd.ntmps14
        go_wp2_with (first | ((with_reducible refine gate_dst (N := 25) rfl ?_); refine Kd.R_lit (Kd.int .u8) _ 5 ?hg (N := 25) ?hd (xs := ([(Go.bits .or .i64 192 (a1 / 64)) % 256, (Go.bits .or .i64 128 (Go.bits .and .i64 a1 63)) % 256] : List Int)) (inner := [.int .u8 ((Go.bits .or .i64 192 (a1 / 64)) % 256), .int .u8 ((Go.bits .or .i64 128 (Go.bits .and .i64 a1 63)) % 256)]) (ok := fun _ => True) (okp := fun _ => True) ?hr ?hp (fun _ hk => hk) trivial (Below.refl _ _) (Nat.le_refl _) (by simp) ?_; (case hd => rfl); (case hg => rfl); (case hr => first | (go_simp; done) | (go_simp; rfl)); (case hp => exact (Reps.one (show Kd.M (Kd.int .u8) _ _ _ ((Go.bits .or .i64 192 (a1 / 64)) % 256) [.int .u8 ((Go.bits .or .i64 192 (a1 / 64)) % 256)] from rfl) (Reps.one (show Kd.M (Kd.int .u8) _ _ _ ((Go.bits .or .i64 128 (Go.bits .and .i64 a1 63)) % 256) [.int .u8 ((Go.bits .or .i64 128 (Go.bits .and .i64 a1 63)) % 256)] from rfl) (Reps.none _ _)))); intro v170 w8 ho9 hb hg_ hnew_; clear hg_ hnew_; (first | rw [← Ny169.out] at ho9 | (simp only [Int.reduceToNat] at ho9; rw [← Ny169.out] at ho9)); have n0_ := Aside0.mk (Kd.R_elder' (by (with_reducible repeat (first | apply Kd.R_alloc | apply Kd.R_drewN | apply Kd.R_drew)); exact HO0.out) (Kd.R_base ho9) hb); have n1_ := Aside0.mk (Kd.R_lower (Kd.R_new' (Kd.R_newM (M := fun k_ => (P0_ k_ ∨ w.heap.size ≤ k_)) ho9 (by first | exact HK.out.1 | exact (show Kept w _ (fun k_ => P0_ k_) from by repeat (first | (with_reducible first | exact HK.out | apply Kept.alloc | apply Kept.drewN | apply Kept.drew) | exact HK.out)).1) (fun k_ h_ => .inr h_)) (Kd.R_lt (by (with_reducible repeat (first | apply Kd.R_alloc | apply Kd.R_drewN | apply Kd.R_drew)); exact HO0.out))) (below_size (by repeat (first | (with_reducible first | exact HB.out | apply below_alloc | apply pw_below_drewN | apply below_drew1) | exact HB.out)))); have n2_ := Aside0.mk (Kept.below (S := (fun k_ => P0_ k_)) (by repeat (first | (with_reducible first | exact HK.out | apply Kept.alloc | apply Kept.drewN | apply Kept.drew) | exact HK.out)) hb); have n3_ := Aside0.mk (below_step (by repeat (first | (with_reducible first | exact HB.out | apply below_alloc | apply pw_below_drewN | apply below_drew1) | exact HB.out)) hb); clear HO0; clear HK; clear HB; have HO0 := n0_; have HO171 := n1_; have HK := n2_; have HB := n3_; clear n0_ n1_ n2_ n3_; clear hb ho9; obtain ⟨Ao11, co11, eo11⟩ := Kd.R_slice HO171.out; subst eo11) | ((with_reducible refine gate_builtin (b := .append) (xs := #[.tmp 16, .tmp 25]) rfl ?_); at_builtin; refine Kd.R_append_rows (Kd.int .u8) (w0 := w0) w0.heap.size rfl (.tmp 16) (.tmp 25) 24 5 (.int .u8 0) 1 rfl Tryd.underlying24 info5 rfl (by decide) (by omega) u9000_ l0 y169 _ _ _ (fun k_ => (P0_ k_ ∨ w.heap.size ≤ k_) ∧ some k_ ≠ (.slice Ao11 y169.length co11 : Value).ownBlock) (fun _ => False) rfl rfl ?aO ?aR (fun _ _ h => h) (fun _ h => h.elim) ?aF ?aB ?aS ?aL ?_; (case aR => repeat (first | exact (Kd.R_reads' HO171.out).2.2 | (with_reducible refine Kd.C_alloc ?_ _) | (with_reducible refine Kd.C_drewN ?_ _) | (with_reducible refine Kd.C_drew ?_))); (case aB => exact (by repeat (first | (with_reducible first | exact HB.out | apply below_alloc | apply pw_below_drewN | apply below_drew1) | exact HB.out))); (case aF => exact (fun k_ hk => ⟨(.inr (Nat.le_trans (by first | exact HK.out.1 | exact (show Kept w _ (fun k_ => P0_ k_) from by repeat (first | (with_reducible first | exact HK.out | apply Kept.alloc | apply Kept.drewN | apply Kept.drew) | exact HK.out)).1) hk)), Kd.fresh' (Kd.R_lt (by (with_reducible repeat (first | apply Kd.R_alloc | apply Kd.R_drewN | apply Kd.R_drew)); exact HO171.out)) k_ hk⟩)); (case aO => exact (by (with_reducible repeat (first | apply Kd.R_alloc | apply Kd.R_drewN | apply Kd.R_drew)); exact HO0.out)); (case aS => exact (below_size (by repeat (first | (with_reducible first | exact HB.out | apply below_alloc | apply pw_below_drewN | apply below_drew1) | exact HB.out)))); (case aL => have := LMc7.out; omega); intro v173 w10 ho hb hg hat; rw [← Ny172.out] at ho; have n0_ := Aside0.mk (Kd.R_after (ok := (fun k_ => (P0_ k_ ∨ w.heap.size ≤ k_))) (by (with_reducible repeat (first | apply Kd.R_alloc | apply Kd.R_drewN | apply Kd.R_drew)); exact Kd.R_mono HO171.out (fun _ hk => ⟨hk.1.1, hk.2⟩)) hg hat); have n1_ := Aside0.mk (hb); have n2_ := Aside0.mk (Kept.of_grown (S := (fun k_ => P0_ k_)) hg (by repeat (first | (with_reducible first | exact HK.out | apply Kept.alloc | apply Kept.drewN | apply Kept.drew) | exact HK.out)) (fun k_ e_ => (HO0.out.1 k_ e_).1)); have n3_ := Aside0.mk (ho); clear HO171; clear HB; clear HK; clear HO0; have HO171 := n0_; have HB := n1_; have HK := n2_; have HO174 := n3_; clear n0_ n1_ n2_ n3_; clear ho hb hg hat))
        go_ret
        exact ⟨_, by first | rfl | (simp [errW_none, errW_some] <;> rfl) | (simp [*, errW_none, errW_some] <;> rfl), by (with_reducible repeat (first | apply Kd.R_alloc | apply Kd.R_drewN | apply Kd.R_drew)); exact Kd.R_mono HO174.out (fun _ hk => hk.1), by repeat (first | (with_reducible first | exact HB.out | apply below_alloc | apply pw_below_drewN | apply below_drew1) | exact HB.out), by repeat (first | (with_reducible first | exact HK.out | apply Kept.alloc | apply Kept.drewN | apply Kept.drew) | exact HK.out)⟩
      · rw [if_neg c7] at H
        exact absurd H (by simp)
    · rw [if_neg c6] at H
      have c6b0 : decide (a1 < 2048) = false := decide_eq_false c6
      clear c6
      obtain ⟨y175, hy175⟩ : ∃ y_ : List Int, y_ = (([(Go.bits .or .i64 224 (a1 / 4096)) % 256, (Go.bits .or .i64 128 (Go.bits .and .i64 (a1 / 64) 63)) % 256, (Go.bits .or .i64 128 (Go.bits .and .i64 a1 63)) % 256] : List Int)) := ⟨_, rfl⟩
      replace H : (if l0.length + y175.length < 140737488355328 then (some (l0 ++ y175)) else (none)) = some r := by first | (rw [hy175]; with_reducible exact H) | (have H2_ := (Option.bind_some _ _).symm.trans H; rw [hy175]; with_reducible exact H2_) | (have H2_ := (Option.bind_some _ _).symm.trans H; with_reducible exact H2_) | with_reducible exact H | (rw [hy175]; exact H) | exact H
      have Ny175 := Aside0.mk hy175
      clear hy175
      by_cases c12 : l0.length + y175.length < 140737488355328
      · rw [if_pos c12] at H
        have LMc12 := Aside0.mk c12
        clear c12
        obtain ⟨y178, hy178⟩ : ∃ y_ : List Int, y_ = (l0 ++ y175) := ⟨_, rfl⟩
        replace H : (some y178) = some r := by first | (rw [hy178]; with_reducible exact H) | (have H2_ := (Option.bind_some _ _).symm.trans H; rw [hy178]; with_reducible exact H2_) | (have H2_ := (Option.bind_some _ _).symm.trans H; with_reducible exact H2_) | with_reducible exact H | (rw [hy178]; exact H) | exact H
        have Ny178 := Aside0.mk hy178
        clear hy178
        obtain rfl := Option.some.inj H
        go_enter Tryd.func14, Tryd.ntmps14
        go_wp2_with (first | ((with_reducible refine gate_dst (N := 41) rfl ?_); refine Kd.R_lit (Kd.int .u8) _ 5 ?hg (N := 41) ?hd (xs := ([(Go.bits .or .i64 224 (a1 / 4096)) % 256, (Go.bits .or .i64 128 (Go.bits .and .i64 (a1 / 64) 63)) % 256, (Go.bits .or .i64 128 (Go.bits .and .i64 a1 63)) % 256] : List Int)) (inner := [.int .u8 ((Go.bits .or .i64 224 (a1 / 4096)) % 256), .int .u8 ((Go.bits .or .i64 128 (Go.bits .and .i64 (a1 / 64) 63)) % 256), .int .u8 ((Go.bits .or .i64 128 (Go.bits .and .i64 a1 63)) % 256)]) (ok := fun _ => True) (okp := fun _ => True) ?hr ?hp (fun _ hk => hk) trivial (Below.refl _ _) (Nat.le_refl _) (by simp) ?_; (case hd => rfl); (case hg => rfl); (case hr => first | (go_simp; done) | (go_simp; rfl)); (case hp => exact (Reps.one (show Kd.M (Kd.int .u8) _ _ _ ((Go.bits .or .i64 224 (a1 / 4096)) % 256) [.int .u8 ((Go.bits .or .i64 224 (a1 / 4096)) % 256)] from rfl) (Reps.one (show Kd.M (Kd.int .u8) _ _ _ ((Go.bits .or .i64 128 (Go.bits .and .i64 (a1 / 64) 63)) % 256) [.int .u8 ((Go.bits .or .i64 128 (Go.bits .and .i64 (a1 / 64) 63)) % 256)] from rfl) (Reps.one (show Kd.M (Kd.int .u8) _ _ _ ((Go.bits .or .i64 128 (Go.bits .and .i64 a1 63)) % 256) [.int .u8 ((Go.bits .or .i64 128 (Go.bits .and .i64 a1 63)) % 256)] from rfl) (Reps.none _ _))))); intro v176 w13 ho14 hb hg_ hnew_; clear hg_ hnew_; (first | rw [← Ny175.out] at ho14 | (simp only [Int.reduceToNat] at ho14; rw [← Ny175.out] at ho14)); have n0_ := Aside0.mk (Kd.R_elder' (by (with_reducible repeat (first | apply Kd.R_alloc | apply Kd.R_drewN | apply Kd.R_drew)); exact HO0.out) (Kd.R_base ho14) hb); have n1_ := Aside0.mk (Kd.R_lower (Kd.R_new' (Kd.R_newM (M := fun k_ => (P0_ k_ ∨ w.heap.size ≤ k_)) ho14 (by first | exact HK.out.1 | exact (show Kept w _ (fun k_ => P0_ k_) from by repeat (first | (with_reducible first | exact HK.out | apply Kept.alloc | apply Kept.drewN | apply Kept.drew) | exact HK.out)).1) (fun k_ h_ => .inr h_)) (Kd.R_lt (by (with_reducible repeat (first | apply Kd.R_alloc | apply Kd.R_drewN | apply Kd.R_drew)); exact HO0.out))) (below_size (by repeat (first | (with_reducible first | exact HB.out | apply below_alloc | apply pw_below_drewN | apply below_drew1) | exact HB.out)))); have n2_ := Aside0.mk (Kept.below (S := (fun k_ => P0_ k_)) (by repeat (first | (with_reducible first | exact HK.out | apply Kept.alloc | apply Kept.drewN | apply Kept.drew) | exact HK.out)) hb); have n3_ := Aside0.mk (below_step (by repeat (first | (with_reducible first | exact HB.out | apply below_alloc | apply pw_below_drewN | apply below_drew1) | exact HB.out)) hb); clear HO0; clear HK; clear HB; have HO0 := n0_; have HO177 := n1_; have HK := n2_; have HB := n3_; clear n0_ n1_ n2_ n3_; clear hb ho14; obtain ⟨Ao16, co16, eo16⟩ := Kd.R_slice HO177.out; subst eo16) | ((with_reducible refine gate_builtin (b := .append) (xs := #[.tmp 27, .tmp 41]) rfl ?_); at_builtin; refine Kd.R_append_rows (Kd.int .u8) (w0 := w0) w0.heap.size rfl (.tmp 27) (.tmp 41) 24 5 (.int .u8 0) 1 rfl Tryd.underlying24 info5 rfl (by decide) (by omega) u9000_ l0 y175 _ _ _ (fun k_ => (P0_ k_ ∨ w.heap.size ≤ k_) ∧ some k_ ≠ (.slice Ao16 y175.length co16 : Value).ownBlock) (fun _ => False) rfl rfl ?aO ?aR (fun _ _ h => h) (fun _ h => h.elim) ?aF ?aB ?aS ?aL ?_; (case aR => repeat (first | exact (Kd.R_reads' HO177.out).2.2 | (with_reducible refine Kd.C_alloc ?_ _) | (with_reducible refine Kd.C_drewN ?_ _) | (with_reducible refine Kd.C_drew ?_))); (case aB => exact (by repeat (first | (with_reducible first | exact HB.out | apply below_alloc | apply pw_below_drewN | apply below_drew1) | exact HB.out))); (case aF => exact (fun k_ hk => ⟨(.inr (Nat.le_trans (by first | exact HK.out.1 | exact (show Kept w _ (fun k_ => P0_ k_) from by repeat (first | (with_reducible first | exact HK.out | apply Kept.alloc | apply Kept.drewN | apply Kept.drew) | exact HK.out)).1) hk)), Kd.fresh' (Kd.R_lt (by (with_reducible repeat (first | apply Kd.R_alloc | apply Kd.R_drewN | apply Kd.R_drew)); exact HO177.out)) k_ hk⟩)); (case aO => exact (by (with_reducible repeat (first | apply Kd.R_alloc | apply Kd.R_drewN | apply Kd.R_drew)); exact HO0.out)); (case aS => exact (below_size (by repeat (first | (with_reducible first | exact HB.out | apply below_alloc | apply pw_below_drewN | apply below_drew1) | exact HB.out)))); (case aL => have := LMc12.out; omega); intro v179 w15 ho hb hg hat; rw [← Ny178.out] at ho; have n0_ := Aside0.mk (Kd.R_after (ok := (fun k_ => (P0_ k_ ∨ w.heap.size ≤ k_))) (by (with_reducible repeat (first | apply Kd.R_alloc | apply Kd.R_drewN | apply Kd.R_drew)); exact Kd.R_mono HO177.out (fun _ hk => ⟨hk.1.1, hk.2⟩)) hg hat); have n1_ := Aside0.mk (hb); have n2_ := Aside0.mk (Kept.of_grown (S := (fun k_ => P0_ k_)) hg (by repeat (first | (with_reducible first | exact HK.out | apply Kept.alloc | apply Kept.drewN | apply Kept.drew) | exact HK.out)) (fun k_ e_ => (HO0.out.1 k_ e_).1)); have n3_ := Aside0.mk (ho); clear HO177; clear HB; clear HK; clear HO0; have HO177 := n0_; have HB := n1_; have HK := n2_; have HO180 := n3_; clear n0_ n1_ n2_ n3_; clear ho hb hg hat))
        go_ret
        exact ⟨_, by first | rfl | (simp [errW_none, errW_some] <;> rfl) | (simp [*, errW_none, errW_some] <;> rfl), by (with_reducible repeat (first | apply Kd.R_alloc | apply Kd.R_drewN | apply Kd.R_drew)); exact Kd.R_mono HO180.out (fun _ hk => hk.1), by repeat (first | (with_reducible first | exact HB.out | apply below_alloc | apply pw_below_drewN | apply below_drew1) | exact HB.out), by repeat (first | (with_reducible first | exact HK.out | apply Kept.alloc | apply Kept.drewN | apply Kept.drew) | exact HK.out)⟩
      · rw [if_neg c12] at H
        exact absurd H (by simp)

end Go.Proofs.YtmiemfgcggkbnaaDoor.QT
