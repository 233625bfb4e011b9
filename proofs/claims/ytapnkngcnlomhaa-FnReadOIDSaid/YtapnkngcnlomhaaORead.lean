/- What the readers of numbers in groups of seven bits come to, the package's and the reference's: the same. -/
import Derived.Test.YtapnkngcnlomhaaQOx2
import Derived.Test.YtapnkngcnlomhaaQOx1
import Derived.Test.YtapnkngcnlomhaaMath
set_option linter.unusedSimpArgs false
set_option linter.unusedVariables false
namespace Go.Proofs.Ytapnkngcnlomhaa.ORead
open Go.RowKit Go.Proofs.Ytapnkngcnlomhaa.QO Go.Proofs.YtapnkngcnlomhaaW.PrintWords Go.Proofs.YtapnkngcnlomhaaW.PrintLast Go.Proofs.Ytapnkngcnlomhaa.Math

/-- The number from place i on, f more groups being let in, v read so far; and the place behind it. -/
def G (b : List Int) : Nat → Int → Int → Option (Int × Int)
  | 0, _, _ => none
  | f + 1, i, v => if i < (b.length : Int) then (if f = 4 ∧ rd b i = 128 then none else if rd b i < 128 then (if v * 128 + rd b i % 128 ≤ 2147483647 then some (v * 128 + rd b i % 128, i + 1) else none) else G b f (i + 1) (v * 128 + rd b i % 128)) else none

/-- What a reader told (its number, its place, whether it is right) is G's answer. -/
def Tells (g : Option (Int × Int)) (x n : Int) (ok : Bool) : Prop := ok = g.isSome ∧ ∀ v m, g = some (v, m) → x = v ∧ n = m

theorem G_range (b : List Int) (hb : Bytes b) : ∀ (f : Nat) (i v : Int), 0 ≤ i → 0 ≤ v → ∀ x n, G b f i v = some (x, n) → 0 ≤ x ∧ x ≤ 2147483647 ∧ i < n ∧ n ≤ b.length := by
  intro f
  induction f with
  | zero => intro i v _ _ x n h; simp [G] at h
  | succ f ih =>
    intro i v hi hv x n h
    have hr := rd_byte hb i
    rw [G] at h
    by_cases c1 : i < (b.length : Int)
    · rw [if_pos c1] at h
      by_cases c2 : f = 4 ∧ rd b i = 128
      · rw [if_pos c2] at h; cases h
      · rw [if_neg c2] at h
        by_cases c3 : rd b i < 128
        · rw [if_pos c3] at h
          by_cases c4 : v * 128 + rd b i % 128 ≤ 2147483647
          · rw [if_pos c4] at h
            simp only [Option.some.injEq, Prod.mk.injEq] at h
            omega
          · rw [if_neg c4] at h; cases h
        · rw [if_neg c3] at h
          have := ih (i + 1) _ (by omega) (by omega) x n h
          omega
    · rw [if_neg c1] at h; cases h

theorem group_join {v c : Int} (hv : 0 ≤ v) (hv2 : v ≤ 34359738368) (h0 : 0 ≤ c) (h1 : c ≤ 255) : Go.bits .or .i64 (wrap64 (v * 128)) (wrap64 (Go.bits .and .u8 c 127)) = v * 128 + c % 128 := by
  rw [u8_low7 h0 h1, wrap64_id (by omega) (by omega), wrap64_id (by omega) (by omega), i64_join7 (by omega) (by omega) (by omega) (by omega) (by omega)]

theorem spec_l0 (b : List Int) (hb : Bytes b) (hl : b.length ≤ 10000) (at_ : Int) (ha : 0 ≤ at_) (ha2 : at_ ≤ 10000) :
    ∀ (f k : Nat) (i v : Int), f ≤ 5 → at_ + 5 = i + f → 0 ≤ v → v < 128 ^ (5 - f) → 4 * f + 4 ≤ k →
      ∃ x n ok, spec_Base128.l0 k b at_ v i = some (x, n, ok) ∧ Tells (G b f i v) x n ok := by
  intro f
  induction f with
  | zero =>
    intro k i v hf hi hv hv2 hk
    obtain ⟨k, rfl⟩ : ∃ m, k = m + 2 := ⟨k - 2, by omega⟩
    refine ⟨0, 0, false, ?_, by simp [G], fun _ _ h => by simp [G] at h⟩
    rw [spec_Base128.l0]
    by_cases c1 : i < (b.length : Int)
    · rw [if_pos c1, wrap64_id (by omega) (by omega), decide_eq_false (by omega), spec_Base128.j1, if_neg (by simp)]
    · rw [if_neg c1, spec_Base128.j1, if_neg (by simp)]
  | succ f ih =>
    intro k i v hf hi hv hv2 hk
    obtain ⟨k, rfl⟩ : ∃ m, k = m + 3 := ⟨k - 3, by omega⟩
    have hr := rd_byte hb i
    have hp : (128 : Int) ^ (5 - (f + 1)) ≤ 268435456 := by
      have : (f = 0 ∨ f = 1 ∨ f = 2 ∨ f = 3 ∨ f = 4) := by omega
      rcases this with rfl | rfl | rfl | rfl | rfl <;> decide
    rw [spec_Base128.l0, G]
    by_cases c1 : i < (b.length : Int)
    · rw [if_pos c1, if_pos c1, wrap64_id (by omega) (by omega), decide_eq_true (by omega), spec_Base128.j1, if_pos rfl]
      by_cases c2 : f = 4 ∧ rd b i = 128
      · rw [if_pos c2]
        refine ⟨0, 0, false, ?_, rfl, fun _ _ h => by cases h⟩
        rw [if_pos (by omega), if_pos (by omega), if_pos c1, c2.2, spec_Base128.j2, if_pos (by rfl)]
      · rw [if_neg c2]
        have step : (if i = at_ then (if 0 ≤ i then (if i < (b.length : Int) then (spec_Base128.j2 (k + 1) b at_ v i ((rd b i) == 128)) else (none)) else (none)) else (spec_Base128.j2 (k + 1) b at_ v i false)) = spec_Base128.j2 (k + 1) b at_ v i false := by
          by_cases c3 : i = at_
          · rw [if_pos c3, if_pos (by omega), if_pos c1, show ((rd b i) == 128) = false from by
              have : rd b i ≠ 128 := fun h => c2 ⟨by omega, h⟩
              simpa using this]
          · rw [if_neg c3]
        rw [step, spec_Base128.j2, if_neg (by simp), if_pos (by omega), if_pos c1, group_join hv (by omega) hr.1 hr.2, wrap64_id (by omega) (by omega)]
        by_cases c4 : rd b i < 128
        · rw [if_pos c4, if_pos c4]
          refine ⟨_, _, _, rfl, ?_, ?_⟩
          · by_cases c5 : v * 128 + rd b i % 128 ≤ 2147483647
            · rw [if_pos c5]; simpa using c5
            · rw [if_neg c5]; simpa using c5
          · intro x n h
            by_cases c5 : v * 128 + rd b i % 128 ≤ 2147483647
            · rw [if_pos c5] at h; simpa using h
            · rw [if_neg c5] at h; cases h
        · rw [if_neg c4, if_neg c4]
          refine ih k (i + 1) _ (by omega) (by omega) (by omega) ?_ (by omega)
          have e : (128 : Int) ^ (5 - f) = 128 ^ (5 - (f + 1)) * 128 := by rw [show 5 - f = (5 - (f + 1)) + 1 by omega, Int.pow_succ]
          rw [e]; omega
    · refine ⟨0, 0, false, ?_, by rw [if_neg c1]; rfl, fun _ _ h => by rw [if_neg c1] at h; cases h⟩
      rw [if_neg c1, spec_Base128.j1, if_neg (by simp)]

theorem asn_l0 (b : List Int) (hb : Bytes b) (hl : b.length ≤ 10000) :
    ∀ (f k : Nat) (i v : Int), f ≤ 5 → 0 ≤ i → i ≤ 10005 → 0 ≤ v → v < 128 ^ (5 - f) → 4 * f + 4 ≤ k →
      ∃ x n e, asn1_parseBase128Int.l0 k b 0 i none v (5 - (f : Int)) = some (x, n, e) ∧ Tells (G b f i v) x n e.isNone := by
  intro f
  induction f with
  | zero =>
    intro k i v hf hi hi2 hv hv2 hk
    obtain ⟨k, rfl⟩ : ∃ m, k = m + 2 := ⟨k - 2, by omega⟩
    rw [asn1_parseBase128Int.l0]
    by_cases c1 : i < (b.length : Int)
    · rw [if_pos c1, if_pos (by omega)]
      exact ⟨_, _, _, rfl, by simp [G], fun _ _ h => by simp [G] at h⟩
    · rw [if_neg c1]
      exact ⟨_, _, _, rfl, by simp [G], fun _ _ h => by simp [G] at h⟩
  | succ f ih =>
    intro k i v hf hi hi2 hv hv2 hk
    obtain ⟨k, rfl⟩ : ∃ m, k = m + 3 := ⟨k - 3, by omega⟩
    have hr := rd_byte hb i
    have hp : (128 : Int) ^ (5 - (f + 1)) ≤ 268435456 := by
      have : (f = 0 ∨ f = 1 ∨ f = 2 ∨ f = 3 ∨ f = 4) := by omega
      rcases this with rfl | rfl | rfl | rfl | rfl <;> decide
    rw [asn1_parseBase128Int.l0, G]
    by_cases c1 : i < (b.length : Int)
    · rw [if_pos c1, if_pos c1, if_neg (by omega), if_pos hi]
      by_cases c2 : f = 4 ∧ rd b i = 128
      · rw [if_pos c2, if_pos (by omega), c2.2, asn1_parseBase128Int.j1, if_pos (by rfl)]
        exact ⟨_, _, _, rfl, rfl, fun _ _ h => by cases h⟩
      · rw [if_neg c2]
        have step : (if (5 - ((f + 1 : Nat) : Int)) = 0 then (asn1_parseBase128Int.j1 (k + 2) b 0 i none (wrap64 (v * 128)) (5 - ((f + 1 : Nat) : Int)) (rd b i) ((rd b i) == 128)) else (asn1_parseBase128Int.j1 (k + 2) b 0 i none (wrap64 (v * 128)) (5 - ((f + 1 : Nat) : Int)) (rd b i) false)) = asn1_parseBase128Int.j1 (k + 2) b 0 i none (wrap64 (v * 128)) (5 - ((f + 1 : Nat) : Int)) (rd b i) false := by
          by_cases c3 : (5 - ((f + 1 : Nat) : Int)) = 0
          · rw [if_pos c3, show ((rd b i) == 128) = false from by
              have : rd b i ≠ 128 := fun h => c2 ⟨by omega, h⟩
              simpa using this]
          · rw [if_neg c3]
        rw [step, asn1_parseBase128Int.j1, if_neg (by simp), group_join hv (by omega) hr.1 hr.2, wrap64_id (x := i + 1) (by omega) (by omega), u8_and128 hr.1 hr.2]
        by_cases c4 : rd b i < 128
        · rw [if_pos (by omega), if_pos c4]
          by_cases c5 : v * 128 + rd b i % 128 ≤ 2147483647
          · rw [if_neg (by omega), if_pos c5]
            exact ⟨_, _, _, rfl, rfl, fun x n h => by simpa using h⟩
          · rw [if_pos (by omega), if_neg c5]
            exact ⟨_, _, _, rfl, rfl, fun _ _ h => by cases h⟩
        · rw [if_neg (by omega), if_neg c4, show wrap64 (5 - ((f + 1 : Nat) : Int) + 1) = 5 - (f : Int) by rw [wrap64_id (by omega) (by omega)]; omega]
          refine ih (k + 1) (i + 1) _ (by omega) (by omega) (by omega) (by omega) ?_ (by omega)
          have e : (128 : Int) ^ (5 - f) = 128 ^ (5 - (f + 1)) * 128 := by rw [show 5 - f = (5 - (f + 1)) + 1 by omega, Int.pow_succ]
          rw [e]; omega
    · rw [if_neg c1, if_neg c1]
      exact ⟨_, _, _, rfl, rfl, fun _ _ h => by cases h⟩

theorem specBase_tells (b : List Int) (hb : Bytes b) (hl : b.length ≤ 10000) (i : Int) (h0 : 0 ≤ i) (h1 : i ≤ 10000) (k : Nat) (hk : 24 ≤ k) : ∃ x n ok, spec_Base128.f k b i = some (x, n, ok) ∧ Tells (G b 5 i 0) x n ok :=
  spec_l0 b hb hl i h0 h1 5 k i 0 (by omega) (by omega) (by omega) (by decide) (by omega)
theorem parseBase_tells (b : List Int) (hb : Bytes b) (hl : b.length ≤ 10000) (i : Int) (h0 : 0 ≤ i) (h1 : i ≤ 10000) (k : Nat) (hk : 24 ≤ k) : ∃ x n e, asn1_parseBase128Int.f k b i = some (x, n, e) ∧ Tells (G b 5 i 0) x n e.isNone :=
  asn_l0 b hb hl 5 k i 0 (by omega) h0 (by omega) (by omega) (by decide) (by omega)

theorem copied_tells (l : List Int) (h : l.length ≤ 10000) : impl_copied.f l = some l := by simp [impl_copied.f]; omega
theorem short_tells (l : List Int) (h : l.length ≤ 10000) : impl_short.f l = some true := by simp [impl_short.f]; omega
end Go.Proofs.Ytapnkngcnlomhaa.ORead
