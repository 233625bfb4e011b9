/- What the writers of numbers in groups of seven bits come to, the package's and the reference's: the same bytes. -/
import Derived.Test.YtapnkngcnlomhaaQHx7
import Derived.Test.YtapnkngcnlomhaaMath
set_option linter.unusedSimpArgs false
set_option linter.unusedVariables false
namespace Go.Proofs.Ytapnkngcnlomhaa.HBase
open Go.RowKit Go.Proofs.Ytapnkngcnlomhaa.QH Go.Proofs.YtapnkngcnlomhaaW.PrintWords Go.Proofs.YtapnkngcnlomhaaW.PrintLast Go.Proofs.YtapnkngcnlomhaaW.PrintMore Go.Proofs.Ytapnkngcnlomhaa.Math

/-- How many groups of seven bits a number has (0 has none). -/
def nd (m : Nat) : Nat := if h : m = 0 then 0 else nd (m / 128) + 1
termination_by m
decreasing_by omega
/-- The groups ahead of the last one. -/
def hi (m : Nat) : List Int := if h : m = 0 then [] else hi (m / 128) ++ [128 + ((m % 128 : Nat) : Int)]
termination_by m
decreasing_by omega
/-- A number's bytes. -/
def enc (n : Nat) : List Int := hi (n / 128) ++ [((n % 128 : Nat) : Int)]

theorem nd_zero : nd 0 = 0 := by unfold nd; simp
theorem nd_pos {m : Nat} (h : m ≠ 0) : nd m = nd (m / 128) + 1 := by rw [nd]; simp [h]
theorem hi_zero : hi 0 = [] := by unfold hi; simp
theorem hi_pos {m : Nat} (h : m ≠ 0) : hi m = hi (m / 128) ++ [128 + ((m % 128 : Nat) : Int)] := by rw [hi]; simp [h]
theorem nd_le : ∀ (j m : Nat), m < 128 ^ j → nd m ≤ j
  | 0, m, h => by have : m = 0 := by simpa using h
                  subst this; rw [nd_zero]; omega
  | j + 1, m, h => by
    by_cases h0 : m = 0
    · subst h0; rw [nd_zero]; omega
    · rw [nd_pos h0]
      have := nd_le j (m / 128) (by rw [Nat.div_lt_iff_lt_mul (by omega)]; rwa [Nat.pow_succ] at h)
      omega
theorem hi_length : ∀ (j m : Nat), m < 128 ^ j → (hi m).length ≤ j
  | 0, m, h => by have : m = 0 := by simpa using h
                  subst this; rw [hi_zero]; simp
  | j + 1, m, h => by
    by_cases h0 : m = 0
    · subst h0; rw [hi_zero]; simp
    · rw [hi_pos h0]
      have := hi_length j (m / 128) (by rw [Nat.div_lt_iff_lt_mul (by omega)]; rwa [Nat.pow_succ] at h)
      simp; omega

/-! ### how many groups -/
theorem len_l0 (k c m : Nat) (hc : c + nd m ≤ 1000) (hk : nd m < k) : asn1_base128IntLength.l0 k c m = some ((c + nd m : Nat) : Int) := by
  induction k generalizing c m with
  | zero => omega
  | succ k ih =>
    simp only [asn1_base128IntLength.l0]
    by_cases h0 : m = 0
    · subst h0; rw [if_neg (by omega), nd_zero]; rfl
    · rw [if_pos (by omega)]
      have e := nd_pos h0
      have := ih (c + 1) (m / 128) (by omega) (by omega)
      rw [wrap64_id (by omega) (by omega), e]
      rw [show ((m : Int) / 128) = ((m / 128 : Nat) : Int) by omega, show ((c : Int) + 1) = ((c + 1 : Nat) : Int) by omega, this]
      congr 2; omega

theorem len_f (k m : Nat) (hm : m < 128 ^ 9) (hk : 10 ≤ k) : asn1_base128IntLength.f k m = some (((nd (m / 128)) + 1 : Nat) : Int) := by
  unfold asn1_base128IntLength.f
  by_cases h0 : m = 0
  · subst h0; rw [if_pos (by rfl), Nat.zero_div, nd_zero]; rfl
  · have := nd_le 9 m hm
    have e := len_l0 k 0 m (by omega) (by omega)
    rw [if_neg (by omega)]
    rw [show (0 : Int) = ((0 : Nat) : Int) from rfl, e, nd_pos h0]
    congr 2; omega

/-! ### the package's writer -/
/-- Group i of a number, as it is written. -/
def D (n i : Nat) : Int := if i = 0 then ((n % 128 : Nat) : Int) else 128 + ((n / 128 ^ i % 128 : Nat) : Int)
def descD (n : Nat) : Nat → List Int
  | 0 => []
  | j + 1 => D n j :: descD n j
def descH (m : Nat) : Nat → List Int
  | 0 => []
  | j + 1 => (128 + ((m / 128 ^ j % 128 : Nat) : Int)) :: descH m j
theorem descD_H (n : Nat) : ∀ j, descD n (j + 1) = descH (n / 128) j ++ [((n % 128 : Nat) : Int)]
  | 0 => by simp [descD, descH, D]
  | j + 1 => by
    have ih := descD_H n j
    rw [descD, ih, descH]
    simp only [D, Nat.succ_ne_zero, if_false, List.cons_append, Nat.add_eq_zero_iff, Nat.one_ne_zero, and_false]
    rw [show n / 128 ^ (j + 1) = n / 128 / 128 ^ j by rw [Nat.pow_succ, Nat.mul_comm, Nat.div_div_eq_div_mul]]
theorem descH_snoc (m : Nat) : ∀ j, descH m (j + 1) = descH (m / 128) j ++ [128 + ((m % 128 : Nat) : Int)]
  | 0 => by simp [descH]
  | j + 1 => by
    have ih := descH_snoc m j
    rw [descH, ih]
    rw [show m / 128 ^ (j + 1) = m / 128 / 128 ^ j by rw [Nat.pow_succ, Nat.mul_comm, Nat.div_div_eq_div_mul]]
    rfl
theorem hi_descH : ∀ (f m : Nat), m < f → hi m = descH m (nd m) := by
  intro f
  induction f with
  | zero => intro m h; omega
  | succ f ih =>
    intro m h
    by_cases h0 : m = 0
    · subst h0; rw [hi_zero, nd_zero]; rfl
    · rw [hi_pos h0, nd_pos h0, descH_snoc, ih (m / 128) (by omega)]
theorem enc_desc (n : Nat) : enc n = descD n (nd (n / 128) + 1) := by
  rw [descD_H, enc, hi_descH _ _ (Nat.lt_succ_self _)]

theorem shr_group (n j : Nat) (hj : j ≤ 9) : shr .i64 n (IntKind.u64.wrap (wrap64 ((j : Int) * 7))) = ((n / 128 ^ j : Nat) : Int) := by
  have e : IntKind.u64.wrap (wrap64 ((j : Int) * 7)) = ((j * 7 : Nat) : Int) := by
    rw [wrap64_id (by omega) (by omega)]
    simp [IntKind.wrap, IntKind.bits, IntKind.signed]
    omega
  rw [e]
  unfold shr
  rw [Int.toNat_natCast, Nat.min_eq_left (by simp [IntKind.bits]; omega)]
  rw [show (2 : Int) ^ (j * 7) = ((128 ^ j : Nat) : Int) by rw [Nat.mul_comm, Int.pow_mul]; simp]
  exact (Int.natCast_ediv _ _).symm
theorem group_nonneg (j : Nat) (hj : j ≤ 9) : 0 ≤ IntKind.u64.wrap (wrap64 ((j : Int) * 7)) := by
  rw [wrap64_id (by omega) (by omega)]
  simp [IntKind.wrap, IntKind.bits, IntKind.signed]
  omega

theorem app_end (k : Nat) (acc : List Int) (n : Int) : asn1_appendBase128Int.l0 (k + 1) acc n (-1) = some acc := by
  simp only [asn1_appendBase128Int.l0]; rw [if_neg (by omega)]
theorem app_l0 (n : Nat) : ∀ (j k : Nat) (acc : List Int), j ≤ 9 → j + 1 < k → acc.length + j < 100000 → asn1_appendBase128Int.l0 k acc n (j : Int) = some (acc ++ descD n (j + 1)) := by
  intro j
  induction j with
  | zero =>
    intro k acc _ hk ha
    obtain ⟨k, rfl⟩ : ∃ m, k = m + 1 := ⟨k - 1, by omega⟩
    obtain ⟨k, rfl⟩ : ∃ m, k = m + 1 := ⟨k - 1, by omega⟩
    rw [asn1_appendBase128Int.l0]
    rw [if_pos (by omega), if_pos (group_nonneg 0 (by omega)), if_pos (by rfl), if_pos (by omega), shr_group n 0 (by omega)]
    rw [show wrap64 (((0 : Nat) : Int) - 1) = -1 by unfold wrap64; omega, app_end]
    rw [u8_low7 (by omega) (by omega)]
    simp only [descD, D, if_true, Nat.pow_zero, Nat.div_one]
    congr 3; omega
  | succ j ih =>
    intro k acc hj hk ha
    obtain ⟨k, rfl⟩ : ∃ m, k = m + 1 := ⟨k - 1, by omega⟩
    rw [asn1_appendBase128Int.l0]
    rw [if_pos (by omega), if_pos (group_nonneg (j + 1) (by omega)), if_neg (by omega), if_pos (by omega), shr_group n (j + 1) (by omega)]
    rw [show wrap64 (((j + 1 : Nat) : Int) - 1) = (j : Int) by rw [wrap64_id (by omega) (by omega)]; omega]
    rw [u8_low7 (by omega) (by omega), u8_or128lo (by omega) (by omega)]
    rw [ih k _ (by omega) (by omega) (by simp; omega), List.append_assoc]
    rw [descD.eq_2 n (j + 1)]
    simp only [D, Nat.succ_ne_zero, if_false, Nat.add_eq_zero_iff, Nat.one_ne_zero, and_false, List.cons_append, List.nil_append]
    congr 3; omega

theorem app_f (k : Nat) (acc : List Int) (n : Nat) (hn : n < 128 ^ 9) (hk : 12 ≤ k) (ha : acc.length < 50000) : asn1_appendBase128Int.f k acc n = some (acc ++ enc n) := by
  have h8 : nd (n / 128) ≤ 8 := nd_le 8 _ (by rw [Nat.div_lt_iff_lt_mul (by omega)]; simpa using hn)
  unfold asn1_appendBase128Int.f
  rw [len_f k n hn (by omega)]
  simp only [Option.bind_some]
  rw [show wrap64 (((nd (n / 128) + 1 : Nat) : Int) - 1) = ((nd (n / 128) : Nat) : Int) by rw [wrap64_id (by omega) (by omega)]; omega]
  rw [app_l0 n _ k acc (by omega) (by omega) (by omega), enc_desc]

end Go.Proofs.Ytapnkngcnlomhaa.HBase
