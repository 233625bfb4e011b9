/- What the writers of a tag and a length come to, the package's and the reference's: the same bytes. -/
import Derived.Test.YtapnkngcnlomhaaHBase
set_option linter.unusedSimpArgs false
set_option linter.unusedVariables false
namespace Go.Proofs.Ytapnkngcnlomhaa.HHead
open Go.RowKit Go.Proofs.Ytapnkngcnlomhaa.QH Go.Proofs.YtapnkngcnlomhaaW.PrintWords Go.Proofs.YtapnkngcnlomhaaW.PrintLast Go.Proofs.YtapnkngcnlomhaaW.PrintMore Go.Proofs.Ytapnkngcnlomhaa.Math Go.Proofs.Ytapnkngcnlomhaa.HBase

theorem p9 : (128 : Nat) ^ 9 = 9223372036854775808 := by decide
/-- The last j bytes of a number. -/
def be (n : Nat) : Nat → List Int
  | 0 => []
  | j + 1 => ((n / 256 ^ j % 256 : Nat) : Int) :: be n j
theorem be_length (n : Nat) : ∀ j, (be n j).length = j
  | 0 => rfl
  | j + 1 => by rw [be, List.length_cons, be_length n j]

/-- How many bytes a number takes (0 takes one). -/
structure Takes (n L : Nat) : Prop where
  one : 1 ≤ L
  four : L ≤ 4
  zero : n / 256 ^ L = 0
  pos : L = 1 ∨ 0 < n / 256 ^ (L - 1)
theorem takes (n : Nat) (h : n ≤ 2147483647) : ∃ L, Takes n L := by
  by_cases h1 : n < 256
  · exact ⟨1, by omega, by omega, by simpa using h1, .inl rfl⟩
  by_cases h2 : n < 65536
  · exact ⟨2, by omega, by omega, by simpa using h2, .inr (by simp; omega)⟩
  by_cases h3 : n < 16777216
  · exact ⟨3, by omega, by omega, by simpa using h3, .inr (by simp; omega)⟩
  · exact ⟨4, by omega, by omega, by simp; omega, .inr (by simp; omega)⟩
theorem Takes.below {n L : Nat} (h : Takes n L) (hn : 0 < n) : ∀ j, j < L → 0 < n / 256 ^ j := by
  intro j hj
  rcases h.pos with h1 | h1
  · obtain rfl : j = 0 := by omega
    simpa using hn
  · have h2 := Nat.div_pos_iff.mp h1
    have : 256 ^ j ≤ 256 ^ (L - 1) := Nat.pow_le_pow_right (by omega) (by omega)
    exact Nat.div_pos (by omega) (Nat.pow_pos (by omega))
theorem div_step (n j : Nat) : ((n / 256 ^ j : Nat) : Int) / 256 = ((n / 256 ^ (j + 1) : Nat) : Int) := by
  rw [Nat.pow_succ, ← Nat.div_div_eq_div_mul]; omega

theorem len_l0 (n L : Nat) (h : Takes n L) (hn : 0 < n) : ∀ (d c k : Nat), c + d = L → 1 ≤ c → d < k → asn1_lengthLength.l0 k ((n / 256 ^ (c - 1) : Nat) : Int) c = some (L : Int) := by
  intro d
  induction d with
  | zero =>
    intro c k hc h1 hk
    obtain ⟨k, rfl⟩ : ∃ m, k = m + 1 := ⟨k - 1, by omega⟩
    have e := div_step n (c - 1)
    have hz := h.zero
    rw [show c - 1 + 1 = L by omega, hz] at e
    rw [asn1_lengthLength.l0, if_neg (by omega)]
    rw [show c = L by omega]
  | succ d ih =>
    intro c k hc h1 hk
    obtain ⟨k, rfl⟩ : ∃ m, k = m + 1 := ⟨k - 1, by omega⟩
    have e := div_step n (c - 1)
    have hp := h.below hn c (by omega)
    have h4 := h.four
    rw [show c - 1 + 1 = c by omega] at e
    rw [asn1_lengthLength.l0, if_pos (by omega), e, wrap64_id (by omega) (by omega)]
    exact ih (c + 1) k (by omega) (by omega) (by omega)
theorem len_f (n L : Nat) (h : Takes n L) (hn : 0 < n) (k : Nat) (hk : 5 ≤ k) : asn1_lengthLength.f k n = some (L : Int) := by
  have := len_l0 n L h hn (L - 1) 1 k (by have := h.one; omega) (by omega) (by have := h.four; omega)
  simpa [asn1_lengthLength.f] using this

theorem count_eq (j : Nat) (hj : j ≤ 4) : IntKind.u64.wrap (wrap64 ((wrap64 (((j + 1 : Nat) : Int) - 1)) * 8)) = ((j * 8 : Nat) : Int) := by
  rw [wrap64_id (x := ((j + 1 : Nat) : Int) - 1) (by omega) (by omega), wrap64_id (by omega) (by omega)]
  simp [IntKind.wrap, IntKind.bits, IntKind.signed]
  omega
theorem shr_byte (n j : Nat) (hj : j ≤ 4) : shr .i64 n ((j * 8 : Nat) : Int) = ((n / 256 ^ j : Nat) : Int) := by
  unfold shr
  rw [Int.toNat_natCast, Nat.min_eq_left (by simp [IntKind.bits]; omega)]
  rw [show (2 : Int) ^ (j * 8) = ((256 ^ j : Nat) : Int) by rw [Nat.mul_comm, Int.pow_mul]; simp]
  exact (Int.natCast_ediv _ _).symm
theorem app_l0 (n : Nat) : ∀ (j k : Nat) (acc : List Int), j ≤ 4 → j < k → acc.length + j < 100000 → asn1_appendLength.l0 k acc n (j : Int) = some (acc ++ be n j) := by
  intro j
  induction j with
  | zero =>
    intro k acc _ hk ha
    obtain ⟨k, rfl⟩ : ∃ m, k = m + 1 := ⟨k - 1, by omega⟩
    rw [asn1_appendLength.l0, if_neg (by omega)]; simp [be]
  | succ j ih =>
    intro k acc hj hk ha
    obtain ⟨k, rfl⟩ : ∃ m, k = m + 1 := ⟨k - 1, by omega⟩
    rw [asn1_appendLength.l0, if_pos (by omega), count_eq j (by omega), if_pos (by omega), if_pos (by omega), shr_byte n j (by omega)]
    rw [wrap64_id (by omega) (by omega), show ((j + 1 : Nat) : Int) - 1 = (j : Int) by omega]
    rw [ih k _ (by omega) (by omega) (by simp; omega), List.append_assoc]
    rw [be]; rfl
theorem app_f (n L : Nat) (h : Takes n L) (hn : 0 < n) (k : Nat) (hk : 6 ≤ k) (acc : List Int) (ha : acc.length < 50000) : asn1_appendLength.f k acc n = some (acc ++ be n L) := by
  unfold asn1_appendLength.f
  rw [len_f n L h hn k (by omega)]
  have := h.four
  exact app_l0 n L k acc (by omega) (by omega) (by omega)

/-! ### the first byte -/
theorem first_tab : ∀ (c : Fin 4) (t : Fin 32),
    Go.bits .or .u8 (Go.bits .or .u8 (((((c.val : Nat) : Int) % 256) * 64) % 256) 32) ((((t.val : Nat) : Int)) % 256) = (Go.bits .or .i64 (Go.bits .or .i64 (((c.val : Nat) : Int) * 64) 32) ((t.val : Nat) : Int)) % 256 ∧
    Go.bits .or .u8 (((((c.val : Nat) : Int) % 256) * 64) % 256) ((((t.val : Nat) : Int)) % 256) = (Go.bits .or .i64 (((c.val : Nat) : Int) * 64) ((t.val : Nat) : Int)) % 256 := by decide +kernel
/-- The first byte as the package makes it. -/
def first (c t : Int) (m : Bool) : Int := Go.bits .or .u8 (if m then Go.bits .or .u8 (((c % 256) * 64) % 256) 32 else (((c % 256) * 64) % 256)) (t % 256)
theorem or_tab : ∀ L : Fin 5, (Go.bits .or .i64 128 ((L.val : Nat) : Int)) % 256 = 128 + ((L.val : Nat) : Int) ∧ Go.bits .or .u8 128 (((L.val : Nat) : Int) % 256) = 128 + ((L.val : Nat) : Int) := by decide +kernel

/-- The tag's bytes. -/
def tagBytes (c : Int) (t : Nat) (m : Bool) : List Int := if t < 31 then [first c t m] else first c 31 m :: enc t
/-- The length's bytes; L as of 'Takes'. -/
def lenBytes (n L : Nat) : List Int := if n < 128 then [(n : Int)] else (128 + (L : Int)) :: be n L
theorem enc_length (t : Nat) (h : t ≤ 2147483647) : (enc t).length ≤ 10 := by
  have := hi_length 9 (t / 128) (by rw [p9]; omega)
  rw [enc, List.length_append]
  simp only [List.length_cons, List.length_nil]
  omega

theorem asn_j1 (k : Nat) (hk : 8 ≤ k) (x : List Int) (hx : x.length ≤ 20000) (c t : Int) (n L : Nat) (hL : Takes n L) (m : Bool) : asn1_appendTagAndLength.j1 k x c t n m = some (x ++ lenBytes n L) := by
  obtain ⟨k, rfl⟩ : ∃ m, k = m + 1 := ⟨k - 1, by omega⟩
  rw [asn1_appendTagAndLength.j1]
  unfold lenBytes
  by_cases h1 : n < 128
  · rw [if_neg (by omega), if_pos (by omega), if_pos h1, show (n : Int) % 256 = n by omega]
  · have h4 := hL.four
    rw [if_pos (by omega), if_neg h1, len_f n L hL (by omega) k (by omega)]
    simp only [Option.bind_some]
    rw [if_pos (by omega), app_f n L hL (by omega) k (by omega) _ (by simp; omega), (or_tab ⟨L, by omega⟩).2]
    simp
theorem asn_f (k : Nat) (hk : 15 ≤ k) (c : Int) (hc0 : 0 ≤ c) (hc : c ≤ 3) (t n L : Nat) (ht : t ≤ 2147483647) (hL : Takes n L) (m : Bool) : asn1_appendTagAndLength.f k [] c t n m = some (tagBytes c t m ++ lenBytes n L) := by
  obtain ⟨k, rfl⟩ : ∃ m, k = m + 1 := ⟨k - 1, by omega⟩
  have e : asn1_appendTagAndLength.f (k + 1) [] c t n m = asn1_appendTagAndLength.j0 (k + 1) [] (if m then Go.bits .or .u8 (((c % 256) * 64) % 256) 32 else (((c % 256) * 64) % 256)) c t n m := by
    unfold asn1_appendTagAndLength.f; cases m <;> rfl
  rw [e, asn1_appendTagAndLength.j0]
  unfold tagBytes
  by_cases h1 : t < 31
  · rw [if_neg (by omega), if_pos (by simp), if_pos h1]
    exact asn_j1 k (by omega) _ (by simp) c t n L hL m
  · have hl := enc_length t ht
    rw [if_pos (by omega), if_pos (by simp), if_neg h1, HBase.app_f k _ t (by rw [p9]; omega) (by omega) (by simp)]
    simp only [Option.bind_some]
    rw [asn_j1 k (by omega) _ (by simp; omega) c t n L hL m]
    rfl
end Go.Proofs.Ytapnkngcnlomhaa.HHead
