/- What the reader of integers in two's complement comes to (package), and what is short. -/
import Derived.Test.YtmiemfgcggkbnaaQIx2
import Derived.Test.YtmiemfgcggkbnaaMath
set_option linter.unusedSimpArgs false
set_option linter.unusedVariables false
namespace Go.Proofs.Ytmiemfgcggkbnaa.IInts
open Go.RowKit Go.Proofs.Ytmiemfgcggkbnaa.QI Go.Proofs.YtmiemfgcggkbnaaW.PrintWords Go.Proofs.YtmiemfgcggkbnaaW.PrintLast Go.Proofs.YtmiemfgcggkbnaaW.PrintMore Go.Proofs.Ytmiemfgcggkbnaa.Math

/-- The bytes are an integer in as few bytes as it takes. -/
def short (l : List Int) : Bool := decide (0 < l.length) && (decide (l.length = 1) || !(decide (rd l 0 = 0 ∧ rd l 1 < 128) || decide (rd l 0 = 255 ∧ 128 ≤ rd l 1)))

theorem checkInteger_tells (l : List Int) (hb : Bytes l) : ∃ r, asn1_checkInteger.f l = some r ∧ r.isNone = short l := by
  have b1 := rd_byte hb 1
  have e1 : Go.bits .and .u8 (rd l 1) 128 = 128 * (rd l 1 / 128) := u8_and128 b1.1 b1.2
  unfold asn1_checkInteger.f short
  rw [e1]
  by_cases h0 : l.length = 0
  · refine ⟨some 0, ?_, ?_⟩ <;> simp [h0]
  by_cases h1 : l.length = 1
  · refine ⟨none, ?_, ?_⟩ <;> simp [h1]
  have h0' : ¬ ((l.length : Int) = 0) := by omega
  have h1' : ¬ ((l.length : Int) = 1) := by omega
  have h2 : 0 < (l.length : Int) := by omega
  have h3 : 1 < (l.length : Int) := by omega
  have h4 : 0 < l.length := by omega
  rw [if_neg h0', if_neg h1', if_pos h2]
  by_cases a0 : rd l 0 = 0
  · have a5 : ¬ (rd l 0 = 255) := by omega
    rw [if_pos a0, if_pos h3]
    by_cases c : rd l 1 < 128
    · rw [if_pos (by omega)]; exact ⟨_, rfl, by simp [h4, h1, a0, c]⟩
    · rw [if_neg (by omega), if_neg a5]; exact ⟨_, rfl, by simp [h4, h1, a0, c]⟩
  · rw [if_neg a0]
    by_cases a5 : rd l 0 = 255
    · rw [if_pos a5, if_pos h3]
      by_cases c : rd l 1 < 128
      · rw [if_neg (by omega)]; exact ⟨_, rfl, by simp [h4, h1, a0, a5, c]⟩
      · rw [if_pos (by omega)]; exact ⟨_, rfl, by simp [h4, h1, a0, a5]; omega⟩
    · rw [if_neg a5]; exact ⟨_, rfl, by simp [h4, h1, a0, a5]⟩

theorem shortest_tells (l : List Int) : spec_Shortest.f l = some (short l) := by
  unfold spec_Shortest.f short
  by_cases h2 : (l.length : Int) < 2
  · rw [if_pos h2]
    by_cases h1 : l.length = 1
    · simp [h1]
    · have : l.length = 0 := by omega
      simp [this]
  have h0 : 0 < (l.length : Int) := by omega
  have h3 : 1 < (l.length : Int) := by omega
  have h4 : 0 < l.length := by omega
  have h1 : ¬ (l.length = 1) := by omega
  rw [if_neg h2, if_pos h0]
  by_cases a0 : rd l 0 = 0
  · have a5 : ¬ (rd l 0 = 255) := by omega
    rw [if_pos a0, if_pos h3]
    by_cases c : rd l 1 < 128
    · rw [if_pos c]; simp [h4, h1, a0, c]
    · rw [if_neg c, if_neg a5]; simp [h4, h1, a0, c]
  · rw [if_neg a0]
    by_cases a5 : rd l 0 = 255
    · rw [if_pos a5, if_pos h3]; simp [h4, h1, a5]
    · rw [if_neg a5]; simp [h4, h1, a0, a5]

theorem copied_tells (l : List Int) (h : l.length ≤ 10000) : impl_copied.f l = some l := by simp [impl_copied.f]; omega
theorem short_tells (l : List Int) (h : l.length ≤ 10000) : impl_short.f l = some true := by simp [impl_short.f]; omega

/-- The first j bytes as a number without a sign. -/
def U (b : List Int) : Nat → Int
  | 0 => 0
  | j + 1 => U b j * 256 + rd b j
/-- The first j bytes as a number in two's complement. -/
def Sg (b : List Int) (j : Nat) : Int := U b j - if 128 ≤ rd b 0 then 256 ^ j else 0

theorem ofInt_wrap (x : Int) : BitVec.ofInt 64 x = BitVec.ofInt 64 (x % 18446744073709551616) := by
  apply BitVec.eq_of_toInt_eq
  simp only [BitVec.toInt_ofInt]
  exact (Int.emod_bmod (x := x) (n := 18446744073709551616)).symm
theorem or8 {x y : Int} (hx : x % 256 = 0) (h0 : 0 ≤ y) (h1 : y < 256) : Go.bits .or .i64 x y = wrap64 (x + y) := by
  obtain ⟨a, ha⟩ := Int.eq_ofNat_of_zero_le (show 0 ≤ x % 18446744073709551616 by omega)
  obtain ⟨c, rfl⟩ := Int.eq_ofNat_of_zero_le h0
  have ha2 : a < 18446744073709551616 := by omega
  have ha3 : a % 256 = 0 := by omega
  have hor : a ||| c = a + c := by
    have hq : a = 2 ^ 8 * (a / 256) := by omega
    rw [hq, ← Nat.two_pow_add_eq_or_of_lt (by omega) (a / 256)]
  have e : Go.bits .or .i64 x c = IntKind.i64.wrap ((a + c : Nat) : Int) := by
    show IntKind.i64.wrap ((BitVec.ofInt 64 x ||| BitVec.ofInt 64 (c : Int)).toNat : Int) = _
    rw [ofInt_wrap x, ha]
    simp only [BitVec.ofInt_natCast, BitVec.toNat_or, BitVec.toNat_ofNat]
    rw [Nat.mod_eq_of_lt (by simpa using ha2), Nat.mod_eq_of_lt (by omega), hor]
  rw [e, IntKind.wrap_i64]
  unfold wrap64
  omega
theorem step8 {x c : Int} (h0 : 0 ≤ c) (h1 : c ≤ 255) : Go.bits .or .i64 (wrap64 (wrap64 x * 256)) (wrap64 c) = wrap64 (x * 256 + c) := by
  rw [wrap64_id (x := c) (by omega) (by omega), or8 (by unfold wrap64; omega) h0 (by omega)]
  unfold wrap64; omega

theorem U_split (b : List Int) (hb : Bytes b) : ∀ j, ∃ r, U b (j + 1) = rd b 0 * 256 ^ j + r ∧ 0 ≤ r ∧ r < 256 ^ j
  | 0 => ⟨0, by simp [U], by simp, by simp⟩
  | j + 1 => by
    obtain ⟨r, h, h0, h1⟩ := U_split b hb j
    have hr := rd_byte hb ((j + 1 : Nat) : Int)
    refine ⟨r * 256 + rd b ((j + 1 : Nat) : Int), ?_, by omega, ?_⟩
    · rw [U, h, Int.pow_succ, Int.add_mul, Int.mul_assoc, Int.add_assoc]
    · rw [Int.pow_succ]; omega
theorem U_split2 (b : List Int) (hb : Bytes b) : ∀ j, ∃ r, U b (j + 2) = (rd b 0 * 256 + rd b 1) * 256 ^ j + r ∧ 0 ≤ r ∧ r < 256 ^ j
  | 0 => ⟨0, by simp [U], by simp, by simp⟩
  | j + 1 => by
    obtain ⟨r, h, h0, h1⟩ := U_split2 b hb j
    have hr := rd_byte hb ((j + 2 : Nat) : Int)
    refine ⟨r * 256 + rd b ((j + 2 : Nat) : Int), ?_, by omega, ?_⟩
    · rw [U, h, Int.pow_succ, Int.add_mul, Int.mul_assoc, Int.add_assoc]
    · rw [Int.pow_succ]; omega

theorem parse_l0 (b : List Int) (hb : Bytes b) (hl : b.length ≤ 8) : ∀ (d j k : Nat), j + d = b.length → d < k →
    asn1_parseInt64.l0 k b (wrap64 (U b j)) none j = some (shr .i64 (shl .i64 (wrap64 (U b b.length)) ((64 - 8 * b.length : Nat) : Int)) ((64 - 8 * b.length : Nat) : Int), none) := by
  intro d
  induction d with
  | zero =>
    intro j k hj hk
    obtain ⟨k, rfl⟩ : ∃ m, k = m + 1 := ⟨k - 1, by omega⟩
    have e : ((64 - (((((b.length : Int)) % 256) * 8) % 256)) % 256) = ((64 - 8 * b.length : Nat) : Int) := by omega
    have ej : j = b.length := by omega
    rw [asn1_parseInt64.l0, if_neg (by omega), e, ej]
  | succ d ih =>
    intro j k hj hk
    obtain ⟨k, rfl⟩ : ∃ m, k = m + 1 := ⟨k - 1, by omega⟩
    have hr := rd_byte hb (j : Int)
    rw [asn1_parseInt64.l0, if_pos (by omega), if_pos (by omega), step8 hr.1 hr.2, wrap64_id (x := (j : Int) + 1) (by omega) (by omega)]
    exact ih (j + 1) k (by omega) (by omega)

theorem shl_lit (x : Int) (c : Nat) (hc : c ≤ 64) : shl .i64 x (c : Int) = wrap64 (x * 2 ^ c) := by
  unfold shl
  rw [Int.toNat_natCast, Nat.min_eq_left (by simpa [IntKind.bits] using hc), IntKind.wrap_i64]; unfold wrap64; rfl
theorem shr_lit (x : Int) (c : Nat) (hc : c ≤ 64) : shr .i64 x (c : Int) = x / 2 ^ c := by
  unfold shr
  rw [Int.toNat_natCast, Nat.min_eq_left (by simpa [IntKind.bits] using hc)]

theorem extend (b : List Int) (hb : Bytes b) (h0 : 0 < b.length) (hl : b.length ≤ 8) :
    shr .i64 (shl .i64 (wrap64 (U b b.length)) ((64 - 8 * b.length : Nat) : Int)) ((64 - 8 * b.length : Nat) : Int) = wrap64 (Sg b b.length) := by
  rw [shl_lit _ _ (by omega), shr_lit _ _ (by omega)]
  obtain ⟨r, e, r0, r1⟩ := U_split b hb (b.length - 1)
  have hr := rd_byte hb 0
  rw [show b.length - 1 + 1 = b.length by omega] at e
  unfold Sg
  rw [e]
  generalize rd b 0 = a at *
  have hn : b.length = 1 ∨ b.length = 2 ∨ b.length = 3 ∨ b.length = 4 ∨ b.length = 5 ∨ b.length = 6 ∨ b.length = 7 ∨ b.length = 8 := by omega
  clear e
  rcases hn with hn | hn | hn | hn | hn | hn | hn | hn <;> rw [hn] at r1 ⊢ <;> simp only [Nat.reduceMul, Nat.reduceSub, Int.reducePow, Int.mul_one, Int.ediv_one] at r1 ⊢ <;> unfold wrap64 <;> split <;> omega

/-- A right integer of at most eight bytes, read. -/
theorem parse_tells (b : List Int) (hb : Bytes b) (k : Nat) (hk : 10 ≤ k) :
    ∃ n e, asn1_parseInt64.f k b = some (n, e) ∧ e.isNone = (short b && decide (b.length ≤ 8)) ∧ (e.isNone = true → n = wrap64 (Sg b b.length)) := by
  obtain ⟨r, hr, e⟩ := checkInteger_tells b hb
  unfold asn1_parseInt64.f
  rw [hr]
  simp only [Option.bind_some]
  cases r with
  | some c =>
    have : short b = false := by rw [← e]; rfl
    rw [this]
    exact ⟨_, _, by rw [if_neg (by simp)], by simp, by simp⟩
  | none =>
    have hs : short b = true := by rw [← e]; rfl
    have h0 : 0 < b.length := by
      simp only [short, Bool.and_eq_true, decide_eq_true_eq] at hs; exact hs.1
    rw [hs, if_pos (by rfl)]
    by_cases h8 : b.length ≤ 8
    · rw [if_neg (by omega)]
      have := parse_l0 b hb h8 b.length 0 k (by omega) (by omega)
      rw [extend b hb h0 h8, show wrap64 (U b 0) = 0 by unfold wrap64 U; omega] at this
      exact ⟨_, _, this, by simp [h8], fun _ => rfl⟩
    · rw [if_pos (by omega)]
      exact ⟨_, _, rfl, by simp [h8], by simp⟩

theorem readInt_tells (b : List Int) (hb : Bytes b) (hl : b.length ≤ 10000) (k : Nat) (hk : 10 ≤ k) :
    ∃ n ok, impl_ReadInt64.f k b = some (n, ok) ∧ ok = (short b && decide (b.length ≤ 8)) ∧ (ok = true → n = wrap64 (Sg b b.length)) := by
  obtain ⟨n, e, hp, ho, hv⟩ := parse_tells b hb k hk
  unfold impl_ReadInt64.f
  rw [short_tells b hl]
  simp only [Option.bind_some, if_true]
  rw [copied_tells b hl]
  simp only [Option.bind_some, asn1_ZZInt64.f, hp]
  cases e with
  | none => exact ⟨n, true, by simp, by rw [← ho]; rfl, fun _ => hv rfl⟩
  | some e => exact ⟨0, false, by simp, by rw [← ho]; rfl, by simp⟩

end Go.Proofs.Ytmiemfgcggkbnaa.IInts
