/- What the package's writer and reader of object identifiers' numbers come to. (Put together by wip/mk_pbase.py out of seat A's texts.) -/
import Derived.Test.YtmiemfgcggkbnaaQPx3
import Derived.Test.YtmiemfgcggkbnaaQPx4
import Derived.Test.YtmiemfgcggkbnaaMath
set_option linter.unusedSimpArgs false
set_option linter.unusedVariables false
namespace Go.Proofs.Ytmiemfgcggkbnaa.PBase
open Go.RowKit Go.Proofs.Ytmiemfgcggkbnaa.QP Go.Proofs.YtmiemfgcggkbnaaW.PrintWords Go.Proofs.YtmiemfgcggkbnaaW.PrintLast Go.Proofs.YtmiemfgcggkbnaaW.PrintMore Go.Proofs.Ytmiemfgcggkbnaa.Math

/-- How many groups of seven bits a number has (0 has none). -/
def nd (m : Nat) : Nat := if h : m = 0 then 0 else nd (m / 128) + 1
termination_by m
decreasing_by omega
/-- The groups ahead of the last one. -/
def hi (m : Nat) : List Int := if h : m = 0 then [] else hi (m / 128) ++ [128 + ((m % 128 : Nat) : Int)]
termination_by m
decreasing_by omega
/-- A number's bytes. -/
def enc (n : Nat) : List Int := hi (n / 128) ++ [((n % 128 : Nat) : Int)]

theorem nd_zero : nd 0 = 0 := by unfold nd; simp
theorem nd_pos {m : Nat} (h : m ≠ 0) : nd m = nd (m / 128) + 1 := by rw [nd]; simp [h]
theorem hi_zero : hi 0 = [] := by unfold hi; simp
theorem hi_pos {m : Nat} (h : m ≠ 0) : hi m = hi (m / 128) ++ [128 + ((m % 128 : Nat) : Int)] := by rw [hi]; simp [h]
theorem nd_le : ∀ (j m : Nat), m < 128 ^ j → nd m ≤ j
  | 0, m, h => by have : m = 0 := by simpa using h
                  subst this; rw [nd_zero]; omega
  | j + 1, m, h => by
    by_cases h0 : m = 0
    · subst h0; rw [nd_zero]; omega
    · rw [nd_pos h0]
      have := nd_le j (m / 128) (by rw [Nat.div_lt_iff_lt_mul (by omega)]; rwa [Nat.pow_succ] at h)
      omega
theorem hi_length : ∀ (j m : Nat), m < 128 ^ j → (hi m).length ≤ j
  | 0, m, h => by have : m = 0 := by simpa using h
                  subst this; rw [hi_zero]; simp
  | j + 1, m, h => by
    by_cases h0 : m = 0
    · subst h0; rw [hi_zero]; simp
    · rw [hi_pos h0]
      have := hi_length j (m / 128) (by rw [Nat.div_lt_iff_lt_mul (by omega)]; rwa [Nat.pow_succ] at h)
      simp; omega

/-! ### how many groups -/
theorem len_l0 (k c m : Nat) (hc : c + nd m ≤ 1000) (hk : nd m < k) : asn1_base128IntLength.l0 k c m = some ((c + nd m : Nat) : Int) := by
  induction k generalizing c m with
  | zero => omega
  | succ k ih =>
    simp only [asn1_base128IntLength.l0]
    by_cases h0 : m = 0
    · subst h0; rw [if_neg (by omega), nd_zero]; rfl
    · rw [if_pos (by omega)]
      have e := nd_pos h0
      have := ih (c + 1) (m / 128) (by omega) (by omega)
      rw [wrap64_id (by omega) (by omega), e]
      rw [show ((m : Int) / 128) = ((m / 128 : Nat) : Int) by omega, show ((c : Int) + 1) = ((c + 1 : Nat) : Int) by omega, this]
      congr 2; omega

theorem len_f (k m : Nat) (hm : m < 128 ^ 9) (hk : 10 ≤ k) : asn1_base128IntLength.f k m = some (((nd (m / 128)) + 1 : Nat) : Int) := by
  unfold asn1_base128IntLength.f
  by_cases h0 : m = 0
  · subst h0; rw [if_pos (by rfl), Nat.zero_div, nd_zero]; rfl
  · have := nd_le 9 m hm
    have e := len_l0 k 0 m (by omega) (by omega)
    rw [if_neg (by omega)]
    rw [show (0 : Int) = ((0 : Nat) : Int) from rfl, e, nd_pos h0]
    congr 2; omega

/-! ### the package's writer -/
/-- Group i of a number, as it is written. -/
def D (n i : Nat) : Int := if i = 0 then ((n % 128 : Nat) : Int) else 128 + ((n / 128 ^ i % 128 : Nat) : Int)
def descD (n : Nat) : Nat → List Int
  | 0 => []
  | j + 1 => D n j :: descD n j
def descH (m : Nat) : Nat → List Int
  | 0 => []
  | j + 1 => (128 + ((m / 128 ^ j % 128 : Nat) : Int)) :: descH m j
theorem descD_H (n : Nat) : ∀ j, descD n (j + 1) = descH (n / 128) j ++ [((n % 128 : Nat) : Int)]
  | 0 => by simp [descD, descH, D]
  | j + 1 => by
    have ih := descD_H n j
    rw [descD, ih, descH]
    simp only [D, Nat.succ_ne_zero, if_false, List.cons_append, Nat.add_eq_zero_iff, Nat.one_ne_zero, and_false]
    rw [show n / 128 ^ (j + 1) = n / 128 / 128 ^ j by rw [Nat.pow_succ, Nat.mul_comm, Nat.div_div_eq_div_mul]]
theorem descH_snoc (m : Nat) : ∀ j, descH m (j + 1) = descH (m / 128) j ++ [128 + ((m % 128 : Nat) : Int)]
  | 0 => by simp [descH]
  | j + 1 => by
    have ih := descH_snoc m j
    rw [descH, ih]
    rw [show m / 128 ^ (j + 1) = m / 128 / 128 ^ j by rw [Nat.pow_succ, Nat.mul_comm, Nat.div_div_eq_div_mul]]
    rfl
theorem hi_descH : ∀ (f m : Nat), m < f → hi m = descH m (nd m) := by
  intro f
  induction f with
  | zero => intro m h; omega
  | succ f ih =>
    intro m h
    by_cases h0 : m = 0
    · subst h0; rw [hi_zero, nd_zero]; rfl
    · rw [hi_pos h0, nd_pos h0, descH_snoc, ih (m / 128) (by omega)]
theorem enc_desc (n : Nat) : enc n = descD n (nd (n / 128) + 1) := by
  rw [descD_H, enc, hi_descH _ _ (Nat.lt_succ_self _)]

theorem shr_group (n j : Nat) (hj : j ≤ 9) : shr .i64 n (IntKind.u64.wrap (wrap64 ((j : Int) * 7))) = ((n / 128 ^ j : Nat) : Int) := by
  have e : IntKind.u64.wrap (wrap64 ((j : Int) * 7)) = ((j * 7 : Nat) : Int) := by
    rw [wrap64_id (by omega) (by omega)]
    simp [IntKind.wrap, IntKind.bits, IntKind.signed]
    omega
  rw [e]
  unfold shr
  rw [Int.toNat_natCast, Nat.min_eq_left (by simp [IntKind.bits]; omega)]
  rw [show (2 : Int) ^ (j * 7) = ((128 ^ j : Nat) : Int) by rw [Nat.mul_comm, Int.pow_mul]; simp]
  exact (Int.natCast_ediv _ _).symm
theorem group_nonneg (j : Nat) (hj : j ≤ 9) : 0 ≤ IntKind.u64.wrap (wrap64 ((j : Int) * 7)) := by
  rw [wrap64_id (by omega) (by omega)]
  simp [IntKind.wrap, IntKind.bits, IntKind.signed]
  omega

theorem app_end (k : Nat) (acc : List Int) (n : Int) : asn1_appendBase128Int.l0 (k + 1) acc n (-1) = some acc := by
  simp only [asn1_appendBase128Int.l0]; rw [if_neg (by omega)]
theorem app_l0 (n : Nat) : ∀ (j k : Nat) (acc : List Int), j ≤ 9 → j + 1 < k → acc.length + j < 100000 → asn1_appendBase128Int.l0 k acc n (j : Int) = some (acc ++ descD n (j + 1)) := by
  intro j
  induction j with
  | zero =>
    intro k acc _ hk ha
    obtain ⟨k, rfl⟩ : ∃ m, k = m + 1 := ⟨k - 1, by omega⟩
    obtain ⟨k, rfl⟩ : ∃ m, k = m + 1 := ⟨k - 1, by omega⟩
    rw [asn1_appendBase128Int.l0]
    rw [if_pos (by omega), if_pos (group_nonneg 0 (by omega)), if_pos (by rfl), if_pos (by omega), shr_group n 0 (by omega)]
    rw [show wrap64 (((0 : Nat) : Int) - 1) = -1 by unfold wrap64; omega, app_end]
    rw [u8_low7 (by omega) (by omega)]
    simp only [descD, D, if_true, Nat.pow_zero, Nat.div_one]
    congr 3; omega
  | succ j ih =>
    intro k acc hj hk ha
    obtain ⟨k, rfl⟩ : ∃ m, k = m + 1 := ⟨k - 1, by omega⟩
    rw [asn1_appendBase128Int.l0]
    rw [if_pos (by omega), if_pos (group_nonneg (j + 1) (by omega)), if_neg (by omega), if_pos (by omega), shr_group n (j + 1) (by omega)]
    rw [show wrap64 (((j + 1 : Nat) : Int) - 1) = (j : Int) by rw [wrap64_id (by omega) (by omega)]; omega]
    rw [u8_low7 (by omega) (by omega), u8_or128lo (by omega) (by omega)]
    rw [ih k _ (by omega) (by omega) (by simp; omega), List.append_assoc]
    rw [descD.eq_2 n (j + 1)]
    simp only [D, Nat.succ_ne_zero, if_false, Nat.add_eq_zero_iff, Nat.one_ne_zero, and_false, List.cons_append, List.nil_append]
    congr 3; omega

theorem app_f (k : Nat) (acc : List Int) (n : Nat) (hn : n < 128 ^ 9) (hk : 12 ≤ k) (ha : acc.length < 50000) : asn1_appendBase128Int.f k acc n = some (acc ++ enc n) := by
  have h8 : nd (n / 128) ≤ 8 := nd_le 8 _ (by rw [Nat.div_lt_iff_lt_mul (by omega)]; simpa using hn)
  unfold asn1_appendBase128Int.f
  rw [len_f k n hn (by omega)]
  simp only [Option.bind_some]
  rw [show wrap64 (((nd (n / 128) + 1 : Nat) : Int) - 1) = ((nd (n / 128) : Nat) : Int) by rw [wrap64_id (by omega) (by omega)]; omega]
  rw [app_l0 n _ k acc (by omega) (by omega) (by omega), enc_desc]

/-! ### the reference's writer -/
theorem put_l0 : ∀ (k m : Nat) (acc : List Int), nd m < k → acc.length + nd m < 100000 → m < 128 ^ 9 → spec_Put128.l0 k m acc = some (hi m ++ acc) := by
  intro k
  induction k with
  | zero => intro m acc h; omega
  | succ k ih =>
    intro m acc hk ha hm
    rw [spec_Put128.l0]
    by_cases h0 : m = 0
    · subst h0; rw [if_neg (by omega), hi_zero]; rfl
    · have e := nd_pos h0
      have hp : (128 : Nat) ^ 9 = 9223372036854775808 := by decide
      rw [if_pos (by omega)]
      simp only [Option.bind_some]
      rw [if_pos (by simp; omega), show ((m : Int) / 128) = ((m / 128 : Nat) : Int) by omega]
      rw [ih (m / 128) _ (by omega) (by simp; omega) (by omega), hi_pos h0]
      rw [i64_low7 (by omega) (by omega), i64_or128lo (by omega) (by omega), List.append_assoc]
      congr 4; omega
theorem put_f (k n : Nat) (hn : n < 128 ^ 9) (hk : 12 ≤ k) : spec_Put128.f k n = some (enc n) := by
  have hp : (128 : Nat) ^ 9 = 9223372036854775808 := by decide
  have h8 : nd (n / 128) ≤ 8 := nd_le 8 _ (by rw [Nat.div_lt_iff_lt_mul (by omega)]; simpa using hn)
  unfold spec_Put128.f
  rw [show ((n : Int) / 128) = ((n / 128 : Nat) : Int) by omega, put_l0 k _ _ (by omega) (by simp; omega) (by omega), enc]
  rw [i64_low7 (by omega) (by omega)]
  congr 3; omega


/-- The number from place i on, f more groups being let in, v read so far; and the place behind it. -/
def G (b : List Int) : Nat → Int → Int → Option (Int × Int)
  | 0, _, _ => none
  | f + 1, i, v => if i < (b.length : Int) then (if f = 4 ∧ rd b i = 128 then none else if rd b i < 128 then (if v * 128 + rd b i % 128 ≤ 2147483647 then some (v * 128 + rd b i % 128, i + 1) else none) else G b f (i + 1) (v * 128 + rd b i % 128)) else none

/-- What a reader told (its number, its place, whether it is right) is G's answer. -/
def Tells (g : Option (Int × Int)) (x n : Int) (ok : Bool) : Prop := ok = g.isSome ∧ ∀ v m, g = some (v, m) → x = v ∧ n = m

theorem G_range (b : List Int) (hb : Bytes b) : ∀ (f : Nat) (i v : Int), 0 ≤ i → 0 ≤ v → ∀ x n, G b f i v = some (x, n) → 0 ≤ x ∧ x ≤ 2147483647 ∧ i < n ∧ n ≤ b.length := by
  intro f
  induction f with
  | zero => intro i v _ _ x n h; simp [G] at h
  | succ f ih =>
    intro i v hi hv x n h
    have hr := rd_byte hb i
    rw [G] at h
    by_cases c1 : i < (b.length : Int)
    · rw [if_pos c1] at h
      by_cases c2 : f = 4 ∧ rd b i = 128
      · rw [if_pos c2] at h; cases h
      · rw [if_neg c2] at h
        by_cases c3 : rd b i < 128
        · rw [if_pos c3] at h
          by_cases c4 : v * 128 + rd b i % 128 ≤ 2147483647
          · rw [if_pos c4] at h
            simp only [Option.some.injEq, Prod.mk.injEq] at h
            omega
          · rw [if_neg c4] at h; cases h
        · rw [if_neg c3] at h
          have := ih (i + 1) _ (by omega) (by omega) x n h
          omega
    · rw [if_neg c1] at h; cases h

theorem group_join {v c : Int} (hv : 0 ≤ v) (hv2 : v ≤ 34359738368) (h0 : 0 ≤ c) (h1 : c ≤ 255) : Go.bits .or .i64 (wrap64 (v * 128)) (wrap64 (Go.bits .and .u8 c 127)) = v * 128 + c % 128 := by
  rw [u8_low7 h0 h1, wrap64_id (by omega) (by omega), wrap64_id (by omega) (by omega), i64_join7 (by omega) (by omega) (by omega) (by omega) (by omega)]


theorem asn_l0 (b : List Int) (hb : Bytes b) (hl : b.length ≤ 10000) :
    ∀ (f k : Nat) (i v : Int), f ≤ 5 → 0 ≤ i → i ≤ 10005 → 0 ≤ v → v < 128 ^ (5 - f) → 4 * f + 4 ≤ k →
      ∃ x n e, asn1_parseBase128Int.l0 k b 0 i none v (5 - (f : Int)) = some (x, n, e) ∧ Tells (G b f i v) x n e.isNone := by
  intro f
  induction f with
  | zero =>
    intro k i v hf hi hi2 hv hv2 hk
    obtain ⟨k, rfl⟩ : ∃ m, k = m + 2 := ⟨k - 2, by omega⟩
    rw [asn1_parseBase128Int.l0]
    by_cases c1 : i < (b.length : Int)
    · rw [if_pos c1, if_pos (by omega)]
      exact ⟨_, _, _, rfl, by simp [G], fun _ _ h => by simp [G] at h⟩
    · rw [if_neg c1]
      exact ⟨_, _, _, rfl, by simp [G], fun _ _ h => by simp [G] at h⟩
  | succ f ih =>
    intro k i v hf hi hi2 hv hv2 hk
    obtain ⟨k, rfl⟩ : ∃ m, k = m + 3 := ⟨k - 3, by omega⟩
    have hr := rd_byte hb i
    have hp : (128 : Int) ^ (5 - (f + 1)) ≤ 268435456 := by
      have : (f = 0 ∨ f = 1 ∨ f = 2 ∨ f = 3 ∨ f = 4) := by omega
      rcases this with rfl | rfl | rfl | rfl | rfl <;> decide
    rw [asn1_parseBase128Int.l0, G]
    by_cases c1 : i < (b.length : Int)
    · rw [if_pos c1, if_pos c1, if_neg (by omega), if_pos hi]
      by_cases c2 : f = 4 ∧ rd b i = 128
      · rw [if_pos c2, if_pos (by omega), c2.2, asn1_parseBase128Int.j1, if_pos (by rfl)]
        exact ⟨_, _, _, rfl, rfl, fun _ _ h => by cases h⟩
      · rw [if_neg c2]
        have step : (if (5 - ((f + 1 : Nat) : Int)) = 0 then (asn1_parseBase128Int.j1 (k + 2) b 0 i none (wrap64 (v * 128)) (5 - ((f + 1 : Nat) : Int)) (rd b i) ((rd b i) == 128)) else (asn1_parseBase128Int.j1 (k + 2) b 0 i none (wrap64 (v * 128)) (5 - ((f + 1 : Nat) : Int)) (rd b i) false)) = asn1_parseBase128Int.j1 (k + 2) b 0 i none (wrap64 (v * 128)) (5 - ((f + 1 : Nat) : Int)) (rd b i) false := by
          by_cases c3 : (5 - ((f + 1 : Nat) : Int)) = 0
          · rw [if_pos c3, show ((rd b i) == 128) = false from by
              have : rd b i ≠ 128 := fun h => c2 ⟨by omega, h⟩
              simpa using this]
          · rw [if_neg c3]
        rw [step, asn1_parseBase128Int.j1, if_neg (by simp), group_join hv (by omega) hr.1 hr.2, wrap64_id (x := i + 1) (by omega) (by omega), u8_and128 hr.1 hr.2]
        by_cases c4 : rd b i < 128
        · rw [if_pos (by omega), if_pos c4]
          by_cases c5 : v * 128 + rd b i % 128 ≤ 2147483647
          · rw [if_neg (by omega), if_pos c5]
            exact ⟨_, _, _, rfl, rfl, fun x n h => by simpa using h⟩
          · rw [if_pos (by omega), if_neg c5]
            exact ⟨_, _, _, rfl, rfl, fun _ _ h => by cases h⟩
        · rw [if_neg (by omega), if_neg c4, show wrap64 (5 - ((f + 1 : Nat) : Int) + 1) = 5 - (f : Int) by rw [wrap64_id (by omega) (by omega)]; omega]
          refine ih (k + 1) (i + 1) _ (by omega) (by omega) (by omega) (by omega) ?_ (by omega)
          have e : (128 : Int) ^ (5 - f) = 128 ^ (5 - (f + 1)) * 128 := by rw [show 5 - f = (5 - (f + 1)) + 1 by omega, Int.pow_succ]
          rw [e]; omega
    · rw [if_neg c1, if_neg c1]
      exact ⟨_, _, _, rfl, rfl, fun _ _ h => by cases h⟩


theorem parseBase_tells (b : List Int) (hb : Bytes b) (hl : b.length ≤ 10000) (i : Int) (h0 : 0 ≤ i) (h1 : i ≤ 10000) (k : Nat) (hk : 24 ≤ k) : ∃ x n e, asn1_parseBase128Int.f k b i = some (x, n, e) ∧ Tells (G b 5 i 0) x n e.isNone :=
  asn_l0 b hb hl 5 k i 0 (by omega) h0 (by omega) (by omega) (by decide) (by omega)

theorem copied_tells (l : List Int) (h : l.length ≤ 10000) : impl_copied.f l = some l := by simp [impl_copied.f]; omega
theorem short_tells (l : List Int) (h : l.length ≤ 10000) : impl_short.f l = some true := by simp [impl_short.f]; omega

theorem drop_cons {B : List Int} {i : Nat} {x : Int} {s : List Int} (h : B.drop i = x :: s) : rd B (i : Int) = x ∧ i < B.length ∧ B.drop (i + 1) = s := by
  have hl : i < B.length := by
    rcases Nat.lt_or_ge i B.length with h1 | h1
    · exact h1
    · rw [List.drop_of_length_le h1] at h; cases h
  rw [List.drop_eq_getElem_cons hl] at h
  injection h with h1 h2
  refine ⟨?_, hl, h2⟩
  unfold rd
  rw [Int.toNat_natCast, List.getD_eq_getElem?_getD, List.getElem?_eq_getElem hl]
  exact h1

theorem D_range (t j : Nat) : 0 ≤ D t j ∧ D t j ≤ 255 := by unfold D; split <;> omega
theorem pow_step (t j : Nat) : ((t / 128 ^ (j + 1) : Nat) : Int) * 128 + ((t / 128 ^ j % 128 : Nat) : Int) = ((t / 128 ^ j : Nat) : Int) := by
  have : t / 128 ^ (j + 1) = t / 128 ^ j / 128 := by rw [Nat.pow_succ, Nat.div_div_eq_div_mul]
  rw [this]; omega
theorem G_reads (B : List Int) (t : Nat) (ht : t ≤ 2147483647) (rest : List Int) : ∀ (j i f : Nat), B.drop i = descD t (j + 1) ++ rest → j + 1 ≤ f → f ≤ 5 → (f = 5 → D t j ≠ 128) → G B f i ((t / 128 ^ (j + 1) : Nat) : Int) = some ((t : Int), (i : Int) + j + 1) := by
  intro j
  induction j with
  | zero =>
    intro i f h hf hf5 hne
    obtain ⟨f, rfl⟩ : ∃ m, f = m + 1 := ⟨f - 1, by omega⟩
    obtain ⟨h1, h2, h3⟩ := drop_cons (show B.drop i = D t 0 :: rest from h)
    have hd : D t 0 = ((t % 128 : Nat) : Int) := rfl
    have hp := pow_step t 0
    rw [Nat.pow_zero, Nat.div_one] at hp
    rw [G, if_pos (by omega), h1, hd, if_neg (by omega), if_pos (by omega), show ((t % 128 : Nat) : Int) % 128 = ((t % 128 : Nat) : Int) by omega, hp, if_pos (by omega)]
    simp
  | succ j ih =>
    intro i f h hf hf5 hne
    obtain ⟨f, rfl⟩ : ∃ m, f = m + 1 := ⟨f - 1, by omega⟩
    obtain ⟨h1, h2, h3⟩ := drop_cons (show B.drop i = D t (j + 1) :: (descD t (j + 1) ++ rest) from h)
    have hd : D t (j + 1) = 128 + ((t / 128 ^ (j + 1) % 128 : Nat) : Int) := by simp [D]
    have hp := pow_step t (j + 1)
    rw [G, if_pos (by omega), h1, if_neg (fun h => hne (by omega) h.2), hd, if_neg (by omega), show (128 + ((t / 128 ^ (j + 1) % 128 : Nat) : Int)) % 128 = ((t / 128 ^ (j + 1) % 128 : Nat) : Int) by omega, hp]
    have := ih (i + 1) f h3 (by omega) (by omega) (by omega)
    rw [show ((i + 1 : Nat) : Int) = (i : Int) + 1 by omega] at this
    rw [this]
    congr 2; omega

theorem nd_spec : ∀ (m : Nat), m / 128 ^ nd m = 0 ∧ (0 < nd m → 0 < m / 128 ^ (nd m - 1)) := by
  have key : ∀ (f m : Nat), m < f → m / 128 ^ nd m = 0 ∧ (0 < nd m → 0 < m / 128 ^ (nd m - 1)) := by
    intro f
    induction f with
    | zero => intro m h; omega
    | succ f ih =>
      intro m h
      by_cases h0 : m = 0
      · subst h0; rw [nd_zero]; simp
      · have e := nd_pos h0
        obtain ⟨a1, a2⟩ := ih (m / 128) (by omega)
        rw [e]
        constructor
        · rw [Nat.pow_succ, Nat.mul_comm, ← Nat.div_div_eq_div_mul]; exact a1
        · intro _
          rw [Nat.add_sub_cancel]
          rcases Nat.eq_zero_or_pos (nd (m / 128)) with z | z
          · rw [z, Nat.pow_zero, Nat.div_one]; omega
          · have := a2 z
            rw [show nd (m / 128) = (nd (m / 128) - 1) + 1 by omega, Nat.pow_succ, Nat.mul_comm, ← Nat.div_div_eq_div_mul]
            exact this
  intro m
  exact key (m + 1) m (by omega)

theorem G_enc (B : List Int) (t : Nat) (ht : t ≤ 2147483647) (i : Nat) (rest : List Int) (h : B.drop i = enc t ++ rest) : G B 5 i 0 = some ((t : Int), (i : Int) + (enc t).length) := by
  have h4 : nd (t / 128) ≤ 4 := nd_le 4 _ (by
    have : (128 : Nat) ^ 4 = 268435456 := by decide
    omega)
  have hlen : (enc t).length = nd (t / 128) + 1 := by
    rw [enc_desc]
    generalize nd (t / 128) + 1 = q
    induction q with
    | zero => rfl
    | succ q ih => rw [descD, List.length_cons, ih]
  obtain ⟨s1, s2⟩ := nd_spec (t / 128)
  have hz : t / 128 ^ (nd (t / 128) + 1) = 0 := by rw [Nat.pow_succ, Nat.mul_comm, ← Nat.div_div_eq_div_mul]; exact s1
  rw [enc_desc] at h
  have := G_reads B t ht rest (nd (t / 128)) i 5 h (by omega) (by omega) (by
    intro _
    rcases Nat.eq_zero_or_pos (nd (t / 128)) with z | z
    · rw [z]; unfold D; simp; omega
    · have s3 := s2 z
      have e : t / 128 ^ nd (t / 128) = t / 128 / 128 ^ (nd (t / 128) - 1) := by
        rw [Nat.div_div_eq_div_mul, ← Nat.pow_succ']; congr 2; omega
      have e2 : t / 128 ^ nd (t / 128) / 128 = 0 := by rw [Nat.div_div_eq_div_mul, ← Nat.pow_succ]; exact hz
      unfold D
      rw [if_neg (by omega)]
      omega)
  rw [hz] at this
  rw [hlen]
  rw [show ((0 : Nat) : Int) = 0 from rfl] at this
  rw [this]
  congr 2 <;> omega


theorem hi_bytes : ∀ (f m : Nat), m < f → Bytes (hi m) := by
  intro f
  induction f with
  | zero => intro m h; omega
  | succ f ih =>
    intro m h
    by_cases h0 : m = 0
    · subst h0; rw [hi_zero]; intro x hx; cases hx
    · rw [hi_pos h0]
      intro x hx
      rcases List.mem_append.mp hx with h1 | h1
      · exact ih _ (by omega) x h1
      · simp at h1; subst h1; exact byte_wf (by omega) (by omega)
theorem enc_bytes (t : Nat) : Bytes (enc t) := by
  intro x hx
  rcases List.mem_append.mp hx with h1 | h1
  · exact hi_bytes _ _ (Nat.lt_succ_self _) x h1
  · simp at h1; subst h1; exact byte_wf (by omega) (by omega)

/-- The numbers from place i on; f: at most so many. -/
def Ns (b : List Int) : Nat → Int → Option (List Int)
  | 0, i => if i < (b.length : Int) then none else some []
  | f + 1, i => if i < (b.length : Int) then (match G b 5 i 0 with | none => none | some (v, n) => (Ns b f n).map (v :: ·)) else some []
/-- The first number tells two. -/
def two (v : Int) : List Int := if v < 80 then [wrap64 (Int.tdiv v 40), Int.tmod v 40] else [2, wrap64 (v - 80)]
/-- An object identifier's numbers. -/
def Oid (b : List Int) : Option (List Int) :=
  if b.length = 0 then none else match G b 5 0 0 with | none => none | some (v, n) => (Ns b b.length n).map (two v ++ ·)
theorem two_length (v : Int) : (two v).length = 2 := by unfold two; split <;> rfl

/-- What a reader told (its numbers, whether it is right) is the answer g. -/
def Is (g : Option (List Int)) (x : List Int) (ok : Bool) : Prop := ok = g.isSome ∧ ∀ y, g = some y → x = y


theorem take_set (s : List Int) (i : Nat) (v : Int) (h : i < s.length) : (s.set i v).take (i + 1) = s.take i ++ [v] := by
  rw [List.take_succ_eq_append_getElem (by simpa using h), List.take_set_of_le (Nat.le_refl i)]
  simp

theorem asn_loid (b : List Int) (hb : Bytes b) (hl : b.length ≤ 10000) : ∀ (f k : Nat) (s : List Int) (o : Int) (i : Nat), s.length = b.length + 1 → 0 ≤ o → o ≤ b.length → (i : Int) ≤ o + 1 → b.length - o ≤ f → f + 30 ≤ k →
    ∃ x e, asn1_parseObjectIdentifier.l0 k b s none o i = some (x, e) ∧ Is ((Ns b f o).map (s.take i ++ ·)) x e.isNone := by
  intro f
  induction f with
  | zero =>
    intro k s o i hs ho ho2 hi hf hk
    obtain ⟨k, rfl⟩ : ∃ m, k = m + 1 := ⟨k - 1, by omega⟩
    rw [asn1_parseObjectIdentifier.l0, if_neg (by omega), if_pos (by omega), if_pos (by omega), Int.toNat_natCast, Ns, if_neg (by omega)]
    exact ⟨_, _, rfl, rfl, by simp⟩
  | succ f ih =>
    intro k s o i hs ho ho2 hi hf hk
    obtain ⟨k, rfl⟩ : ∃ m, k = m + 1 := ⟨k - 1, by omega⟩
    rw [asn1_parseObjectIdentifier.l0, Ns]
    by_cases c1 : o < (b.length : Int)
    · rw [if_pos c1, if_pos c1]
      obtain ⟨v, n, e, h, ht⟩ := parseBase_tells b hb hl o ho (by omega) k (by omega)
      rw [h]
      simp only [Option.bind_some]
      cases hg : G b 5 o 0 with
      | none =>
        have h1 := ht.1
        rw [hg] at h1
        cases e with
        | none => simp at h1
        | some e => simp only [Option.isNone_some, Bool.false_eq_true, if_false]; exact ⟨_, _, rfl, rfl, by simp⟩
      | some p =>
        obtain ⟨v', n'⟩ := p
        have h1 := ht.1
        rw [hg] at h1
        obtain ⟨rfl, rfl⟩ := ht.2 v' n' hg
        have hgr := G_range b hb 5 o 0 ho (by omega) v n hg
        cases e with
        | some e => simp at h1
        | none =>
          simp only [Option.isNone_none, if_true]
          rw [if_pos (by omega), if_pos (by omega), Int.toNat_natCast, wrap64_id (by omega) (by omega)]
          obtain ⟨x, e2, e3, hs2⟩ := ih k (s.set i v) n (i + 1) (by simpa using hs) (by omega) (by omega) (by omega) (by omega) (by omega)
          refine ⟨x, e2, e3, ?_⟩
          rw [take_set s i v (by omega)] at hs2
          have : (Option.map (v :: ·) (Ns b f n)).map (s.take i ++ ·) = (Ns b f n).map ((s.take i ++ [v]) ++ ·) := by
            rw [Option.map_map]
            congr 1
            funext y
            simp
          rw [this]
          exact hs2
    · rw [if_neg c1, if_neg c1, if_pos (by omega), if_pos (by omega), Int.toNat_natCast]
      exact ⟨_, _, rfl, rfl, by simp⟩

theorem parse_tells_oid (b : List Int) (hb : Bytes b) (hl : b.length ≤ 10000) (k : Nat) (hk : b.length + 40 ≤ k) : ∃ x e, asn1_parseObjectIdentifier.f k b = some (x, e) ∧ Is (Oid b) x e.isNone := by
  obtain ⟨k, rfl⟩ : ∃ m, k = m + 1 := ⟨k - 1, by omega⟩
  unfold asn1_parseObjectIdentifier.f Oid
  by_cases c0 : b.length = 0
  · rw [if_pos (by omega), if_pos c0]
    exact ⟨_, _, rfl, rfl, by simp⟩
  · rw [if_neg (by omega), if_neg c0, wrap64_id (x := (b.length : Int) + 1) (by omega) (by omega), if_pos (by omega), if_pos (by omega)]
    simp only [Option.bind_some]
    rw [show ((b.length : Int) + 1).toNat = b.length + 1 by omega]
    obtain ⟨v, n, e, h, ht⟩ := parseBase_tells b hb hl 0 (by omega) (by omega) (k + 1) (by omega)
    rw [h]
    simp only [Option.bind_some]
    cases hg : G b 5 0 0 with
    | none =>
      have h1 := ht.1
      rw [hg] at h1
      cases e with
      | none => simp at h1
      | some e => simp only [Option.isNone_some, Bool.false_eq_true, if_false]; exact ⟨_, _, rfl, rfl, by simp⟩
    | some p =>
      obtain ⟨v', n'⟩ := p
      have h1 := ht.1
      rw [hg] at h1
      obtain ⟨rfl, rfl⟩ := ht.2 v' n' hg
      have hgr := G_range b hb 5 0 0 (by omega) (by omega) v n hg
      cases e with
      | some e => simp at h1
      | none =>
        simp only [Option.isNone_none, if_true, List.length_replicate]
        have fin : ∀ x y : Int, two v = [x, y] → ∃ z e, asn1_parseObjectIdentifier.j0 (k + 1) b (((List.replicate (b.length + 1) 0).set (0 : Int).toNat x).set (1 : Int).toNat y) none n = some (z, e) ∧ Is ((Ns b b.length n).map (two v ++ ·)) z e.isNone := by
          intro x y hxy
          rw [asn1_parseObjectIdentifier.j0]
          have := asn_loid b hb hl b.length k (((List.replicate (b.length + 1) 0).set (0 : Int).toNat x).set (1 : Int).toNat y) n 2 (by simp) (by omega) (by omega) (by omega) (by omega) (by omega)
          rw [show ((2 : Nat) : Int) = 2 from rfl] at this
          have ht2 : (((List.replicate (b.length + 1) (0 : Int)).set (0 : Int).toNat x).set (1 : Int).toNat y).take 2 = two v := by
            rw [hxy]
            obtain ⟨m, hm⟩ : ∃ m, b.length + 1 = m + 2 := ⟨b.length - 1, by omega⟩
            rw [hm, List.replicate_succ, List.replicate_succ]
            rfl
          rw [ht2] at this
          exact this
        by_cases c8 : v < 80
        · rw [if_pos c8, if_pos (by omega), if_pos (by omega)]
          exact fin _ _ (by unfold two; rw [if_pos c8])
        · rw [if_neg c8, if_pos (by omega), if_pos (by omega)]
          exact fin _ _ (by unfold two; rw [if_neg c8])

theorem Ns_length (b : List Int) (hb : Bytes b) : ∀ (f : Nat) (i : Int) (L : List Int), 0 ≤ i → i ≤ b.length → Ns b f i = some L → L.length ≤ b.length - i := by
  intro f
  induction f with
  | zero =>
    intro i L hi hi2 h
    rw [Ns] at h
    by_cases c : i < (b.length : Int)
    · rw [if_pos c] at h; cases h
    · rw [if_neg c] at h; obtain rfl := Option.some.inj h; simp; omega
  | succ f ih =>
    intro i L hi hi2 h
    rw [Ns] at h
    by_cases c : i < (b.length : Int)
    · rw [if_pos c] at h
      cases hg : G b 5 i 0 with
      | none => rw [hg] at h; cases h
      | some p =>
        obtain ⟨v, n⟩ := p
        rw [hg] at h
        have hgr := G_range b hb 5 i 0 hi (by omega) v n hg
        cases hn : Ns b f n with
        | none => simp [hn] at h
        | some M =>
          simp [hn] at h
          subst h
          have := ih n M (by omega) (by omega) hn
          simp; omega
    · rw [if_neg c] at h; obtain rfl := Option.some.inj h; simp; omega
theorem Oid_length (b : List Int) (hb : Bytes b) (L : List Int) (h : Oid b = some L) : L.length ≤ b.length + 2 := by
  unfold Oid at h
  by_cases c0 : b.length = 0
  · rw [if_pos c0] at h; cases h
  · rw [if_neg c0] at h
    cases hg : G b 5 0 0 with
    | none => rw [hg] at h; cases h
    | some p =>
      obtain ⟨v, n⟩ := p
      rw [hg] at h
      have hgr := G_range b hb 5 0 0 (by omega) (by omega) v n hg
      cases hn : Ns b b.length n with
      | none => simp [hn] at h
      | some M =>
        simp [hn] at h
        subst h
        have := Ns_length b hb _ n M (by omega) (by omega) hn
        simp [two_length]; omega

theorem readOID_tells (b : List Int) (hb : Bytes b) (hl : b.length ≤ 10000) (k : Nat) (hk : b.length + 40 ≤ k) : ∃ x ok, impl_ReadOID.f k b = some (x, ok) ∧ Is (Oid b) x ok := by
  obtain ⟨x, e, h, hs⟩ := parse_tells_oid b hb hl k hk
  unfold impl_ReadOID.f
  rw [short_tells b hl]
  simp only [Option.bind_some, if_true]
  rw [copied_tells b hl]
  simp only [Option.bind_some, asn1_ZZOID.f, h]
  cases e with
  | none =>
    simp only [Option.isNone_none, if_true]
    have h1 := hs.1
    obtain ⟨L, hL⟩ := Option.isSome_iff_exists.mp h1.symm
    have e := hs.2 L hL
    have := Oid_length b hb L hL
    rw [e]
    rw [if_pos (by simp; omega)]
    exact ⟨_, _, rfl, h1, fun y hy => by rw [hL] at hy; simpa using hy⟩
  | some e =>
    simp only [Option.isNone_some, Bool.false_eq_true, if_false]
    exact ⟨_, _, rfl, hs.1, fun y hy => by have := hs.1; rw [hy] at this; simp at this⟩

theorem equal_self (l : List Int) (hl : l.length ≤ 20000) : ∀ (d k : Nat) (i : Nat), i + d = l.length → d + 1 ≤ k → slices_Equal_int_int.l0 k l l l.length i = some true := by
  intro d
  induction d with
  | zero =>
    intro k i h hk
    obtain ⟨k, rfl⟩ : ∃ m, k = m + 1 := ⟨k - 1, by omega⟩
    rw [slices_Equal_int_int.l0, if_neg (by omega)]
  | succ d ih =>
    intro k i h hk
    obtain ⟨k, rfl⟩ : ∃ m, k = m + 1 := ⟨k - 1, by omega⟩
    rw [slices_Equal_int_int.l0, if_pos (by omega), if_pos (by omega), if_pos (by omega), if_pos (by omega), if_pos rfl, wrap64_id (by omega) (by omega)]
    exact ih k (i + 1) (by omega) (by omega)
theorem equal_f (l : List Int) (hl : l.length ≤ 20000) (k : Nat) (hk : l.length + 1 ≤ k) : slices_Equal_int_int.f k l l = some true := by
  unfold slices_Equal_int_int.f
  rw [if_pos rfl]
  exact equal_self l hl l.length k 0 (by omega) (by omega)

end Go.Proofs.Ytmiemfgcggkbnaa.PBase
