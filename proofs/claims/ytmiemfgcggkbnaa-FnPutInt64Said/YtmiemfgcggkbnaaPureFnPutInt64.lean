/- An integer is written in as few bytes as it takes, and read as it was: the law FnPutInt64 answers true for every int64. This text: the plain statement over numbers and lists of numbers. -/
import Derived.Test.YtmiemfgcggkbnaaQIx2
import Derived.Test.YtmiemfgcggkbnaaIInts
set_option linter.unusedSimpArgs false
set_option linter.unusedVariables false
namespace Go.Proofs.Ytmiemfgcggkbnaa.Pure
open Go.RowKit Go.Proofs.Ytmiemfgcggkbnaa.QI Go.Proofs.YtmiemfgcggkbnaaW.PrintWords Go.Proofs.YtmiemfgcggkbnaaW.PrintLast Go.Proofs.Ytmiemfgcggkbnaa.Math Go.Proofs.Ytmiemfgcggkbnaa.IInts

/-- The byte j of x in m bytes. -/
def bt (x : Int) (m j : Nat) : Int := x / 2 ^ (8 * (m - 1 - j)) % 256
def by' (x : Int) (m : Nat) : List Int := (List.range m).map (bt x m)
/-- x has room in m bytes. -/
def fit (x : Int) (m : Nat) : Prop := -(128 * 256 ^ (m - 1)) ≤ x ∧ x < 128 * 256 ^ (m - 1)
instance (x : Int) (m : Nat) : Decidable (fit x m) := by unfold fit; infer_instance

theorem len_up : ∀ (d k : Nat) (x c : Int), 0 ≤ c → c + d ≤ 100 → 128 * 256 ^ d ≤ 256 * x + 255 → x < 128 * 256 ^ d → -128 ≤ x → d + 2 ≤ k → asn1_int64Encoder_Len.l0 k x c = some (c + d) := by
  intro d
  induction d with
  | zero =>
    intro k x c h0 h1 ha hb hc hk
    obtain ⟨k, rfl⟩ : ∃ m, k = m + 2 := ⟨k - 2, by omega⟩
    simp only [Int.pow_zero] at ha hb
    rw [asn1_int64Encoder_Len.l0, if_neg (by omega), asn1_int64Encoder_Len.l1, if_neg (by omega)]
    simp
  | succ d ih =>
    intro k x c h0 h1 ha hb hc hk
    obtain ⟨k, rfl⟩ : ∃ m, k = m + 1 := ⟨k - 1, by omega⟩
    have hp : (0 : Int) < 256 ^ d := Int.pow_pos (by decide)
    rw [Int.pow_succ] at ha hb
    generalize (256 : Int) ^ d = p at *
    rw [asn1_int64Encoder_Len.l0, if_pos (by omega), wrap64_id (by omega) (by omega)]
    rw [ih k (x / 256) (c + 1) (by omega) (by omega) (by omega) (by omega) (by omega) (by omega)]
    congr 1; omega
theorem len_down : ∀ (d k : Nat) (x c : Int), 0 ≤ c → c + d ≤ 100 → 256 * x < -(128 * 256 ^ d) → -(128 * 256 ^ d) ≤ x → d + 1 ≤ k → asn1_int64Encoder_Len.l1 k x c = some (c + d) := by
  intro d
  induction d with
  | zero =>
    intro k x c h0 h1 ha hb hk
    obtain ⟨k, rfl⟩ : ∃ m, k = m + 1 := ⟨k - 1, by omega⟩
    simp only [Int.pow_zero] at ha hb
    rw [asn1_int64Encoder_Len.l1, if_neg (by omega)]
    simp
  | succ d ih =>
    intro k x c h0 h1 ha hb hk
    obtain ⟨k, rfl⟩ : ∃ m, k = m + 1 := ⟨k - 1, by omega⟩
    have hp : (0 : Int) < 256 ^ d := Int.pow_pos (by decide)
    rw [Int.pow_succ] at ha hb
    generalize (256 : Int) ^ d = p at *
    rw [asn1_int64Encoder_Len.l1, if_pos (by omega), wrap64_id (by omega) (by omega)]
    rw [ih k (x / 256) (c + 1) (by omega) (by omega) (by omega) (by omega) (by omega)]
    congr 1; omega

theorem len_tells (x : Int) (h0 : -9223372036854775808 ≤ x) (h1 : x ≤ 9223372036854775807) (k : Nat) (hk : 20 ≤ k) :
    ∃ d : Nat, d ≤ 7 ∧ asn1_int64Encoder_Len.f k x = some ((d + 1 : Nat) : Int) ∧ fit x (d + 1) ∧ (1 ≤ d → ¬ fit x d) := by
  unfold asn1_int64Encoder_Len.f
  by_cases c : 0 ≤ x
  · have key : ∃ d : Nat, d ≤ 7 ∧ (128 * 256 ^ d ≤ 256 * x + 255 ∧ x < 128 * 256 ^ d) := by
      by_cases c0 : x < 128
      · exact ⟨0, by omega, by simp only [Int.reducePow, Int.reduceMul]; omega⟩
      by_cases c1 : x < 128 * 256
      · exact ⟨1, by omega, by simp only [Int.reducePow, Int.reduceMul]; omega⟩
      by_cases c2 : x < 128 * 256 ^ 2
      · exact ⟨2, by omega, by simp only [Int.reducePow, Int.reduceMul] at *; omega⟩
      by_cases c3 : x < 128 * 256 ^ 3
      · exact ⟨3, by omega, by simp only [Int.reducePow, Int.reduceMul] at *; omega⟩
      by_cases c4 : x < 128 * 256 ^ 4
      · exact ⟨4, by omega, by simp only [Int.reducePow, Int.reduceMul] at *; omega⟩
      by_cases c5 : x < 128 * 256 ^ 5
      · exact ⟨5, by omega, by simp only [Int.reducePow, Int.reduceMul] at *; omega⟩
      by_cases c6 : x < 128 * 256 ^ 6
      · exact ⟨6, by omega, by simp only [Int.reducePow, Int.reduceMul] at *; omega⟩
      exact ⟨7, by omega, by simp only [Int.reducePow, Int.reduceMul] at *; omega⟩
    obtain ⟨d, hd, ha, hb⟩ := key
    refine ⟨d, hd, ?_, ?_, ?_⟩
    · rw [len_up d k x 1 (by omega) (by omega) ha hb (by omega) (by omega)]; congr 1; omega
    · unfold fit; rw [Nat.add_sub_cancel]; omega
    · intro h1d hf
      obtain ⟨e, rfl⟩ : ∃ e, d = e + 1 := ⟨d - 1, by omega⟩
      unfold fit at hf
      rw [Nat.add_sub_cancel] at hf
      rw [Int.pow_succ] at ha
      generalize (256 : Int) ^ e = p at *
      omega
  · obtain ⟨k, rfl⟩ : ∃ m, k = m + 1 := ⟨k - 1, by omega⟩
    rw [asn1_int64Encoder_Len.l0, if_neg (by omega)]
    have key : ∃ d : Nat, d ≤ 7 ∧ (256 * x < -(128 * 256 ^ d) ∧ -(128 * 256 ^ d) ≤ x) := by
      by_cases c0 : -128 ≤ x
      · exact ⟨0, by omega, by simp only [Int.reducePow, Int.reduceMul]; omega⟩
      by_cases c1 : -(128 * 256) ≤ x
      · exact ⟨1, by omega, by simp only [Int.reducePow, Int.reduceMul]; omega⟩
      by_cases c2 : -(128 * 256 ^ 2) ≤ x
      · exact ⟨2, by omega, by simp only [Int.reducePow, Int.reduceMul] at *; omega⟩
      by_cases c3 : -(128 * 256 ^ 3) ≤ x
      · exact ⟨3, by omega, by simp only [Int.reducePow, Int.reduceMul] at *; omega⟩
      by_cases c4 : -(128 * 256 ^ 4) ≤ x
      · exact ⟨4, by omega, by simp only [Int.reducePow, Int.reduceMul] at *; omega⟩
      by_cases c5 : -(128 * 256 ^ 5) ≤ x
      · exact ⟨5, by omega, by simp only [Int.reducePow, Int.reduceMul] at *; omega⟩
      by_cases c6 : -(128 * 256 ^ 6) ≤ x
      · exact ⟨6, by omega, by simp only [Int.reducePow, Int.reduceMul] at *; omega⟩
      exact ⟨7, by omega, by simp only [Int.reducePow, Int.reduceMul] at *; omega⟩
    obtain ⟨d, hd, ha, hb⟩ := key
    refine ⟨d, hd, ?_, ?_, ?_⟩
    · rw [len_down d k x 1 (by omega) (by omega) ha hb (by omega)]; congr 1; omega
    · unfold fit; rw [Nat.add_sub_cancel]
      have hp : (0 : Int) < 256 ^ d := Int.pow_pos (by decide)
      omega
    · intro h1d hf
      obtain ⟨e, rfl⟩ : ∃ e, d = e + 1 := ⟨d - 1, by omega⟩
      unfold fit at hf
      rw [Nat.add_sub_cancel] at hf
      rw [Int.pow_succ] at ha
      generalize (256 : Int) ^ e = p at *
      omega

theorem count8 (m j : Nat) (hm : m ≤ 8) (hj : j < m) : IntKind.u64.wrap (wrap64 ((wrap64 ((wrap64 ((m : Int) - 1)) - j)) * 8)) = ((8 * (m - 1 - j) : Nat) : Int) := by
  rw [wrap64_id (x := (m : Int) - 1) (by omega) (by omega), wrap64_id (x := (m : Int) - 1 - j) (by omega) (by omega), wrap64_id (by omega) (by omega)]
  rw [IntKind.wrap_u64]; omega

theorem encode_l0 (x : Int) (m : Nat) (hm : m ≤ 8) : ∀ (d j k : Nat), j + d = m → d < k →
    asn1_int64Encoder_Encode.l0 k x ((List.range j).map (bt x m) ++ List.replicate d 0) m j = some (by' x m) := by
  intro d
  induction d with
  | zero =>
    intro j k hj hk
    obtain ⟨k, rfl⟩ : ∃ m, k = m + 1 := ⟨k - 1, by omega⟩
    have : j = m := by omega
    subst this
    rw [asn1_int64Encoder_Encode.l0, if_neg (by omega)]
    simp [by']
  | succ d ih =>
    intro j k hj hk
    obtain ⟨k, rfl⟩ : ∃ m, k = m + 1 := ⟨k - 1, by omega⟩
    rw [asn1_int64Encoder_Encode.l0, if_pos (by omega), count8 m j hm (by omega), if_pos (by omega), if_pos (by omega), if_pos (by simp; omega), shr_lit _ _ (by omega), wrap64_id (by omega) (by omega)]
    have := ih (j + 1) k (by omega) (by omega)
    rw [List.range_succ, List.map_append] at this
    rw [Int.toNat_natCast, List.set_append_right _ _ (by simp)]
    simpa [List.replicate_succ, bt] using this

theorem by_bytes (x : Int) (m : Nat) : Bytes (by' x m) := by
  intro y hy
  simp only [by', List.mem_map] at hy
  obtain ⟨j, _, rfl⟩ := hy
  unfold bt
  exact byte_wf (by omega) (by omega)
theorem by_len (x : Int) (m : Nat) : (by' x m).length = m := by simp [by']
theorem by_drop (x : Int) (m : Nat) : (by' x (m + 1)).drop 1 = by' x m := by
  apply List.ext_getElem
  · simp [by']
  · intro i h1 h2
    simp only [by', bt, List.getElem_drop, List.getElem_map, List.getElem_range]
    rw [show m + 1 - 1 - (1 + i) = m - 1 - i by omega]
theorem by_rd (x : Int) (m j : Nat) (hj : j < m) : rd (by' x m) j = bt x m j := by
  unfold rd by'
  rw [Int.toNat_natCast, List.getD_eq_getElem?_getD, List.getElem?_eq_getElem (by simpa using hj)]
  simp

theorem put_encode (x : Int) (h0 : -9223372036854775808 ≤ x) (h1 : x ≤ 9223372036854775807) (k : Nat) (hk : 20 ≤ k) :
    ∃ d : Nat, d ≤ 7 ∧ impl_PutInt64.f k x = some (by' x (d + 1)) ∧ fit x (d + 1) ∧ (1 ≤ d → ¬ fit x d) := by
  obtain ⟨d, hd, e, hf, hn⟩ := len_tells x h0 h1 k hk
  refine ⟨d, hd, ?_, hf, hn⟩
  unfold impl_PutInt64.f zzEncI.f asn1_int64Encoder_Encode.f
  rw [e]
  simp only [Option.bind_some]
  rw [if_pos (by omega), Int.toNat_natCast]
  have := encode_l0 x (d + 1) (by omega) (d + 1) 0 k (by omega) (by omega)
  simpa using this

theorem short_one (x : Int) : short (by' x 1) = true := by simp [short, by']
theorem short_by (x : Int) (d : Nat) (hd : d ≤ 6) (hf : fit x (d + 2)) : short (by' x (d + 2)) = !decide (fit x (d + 1)) := by
  have r0 := by_rd x (d + 2) 0 (by omega)
  have r1 := by_rd x (d + 2) 1 (by omega)
  rw [show ((0 : Nat) : Int) = 0 from rfl] at r0
  rw [show ((1 : Nat) : Int) = 1 from rfl] at r1
  unfold short
  rw [r0, r1, by_len]
  unfold bt
  unfold fit at hf ⊢
  have key : ((x / 2 ^ (8 * (d + 2 - 1 - 0)) % 256 = 0 ∧ x / 2 ^ (8 * (d + 2 - 1 - 1)) % 256 < 128) ∨ (x / 2 ^ (8 * (d + 2 - 1 - 0)) % 256 = 255 ∧ 128 ≤ x / 2 ^ (8 * (d + 2 - 1 - 1)) % 256)) ↔ (-(128 * 256 ^ (d + 1 - 1)) ≤ x ∧ x < 128 * 256 ^ (d + 1 - 1)) := by
    have hd' : d = 0 ∨ d = 1 ∨ d = 2 ∨ d = 3 ∨ d = 4 ∨ d = 5 ∨ d = 6 := by omega
    rcases hd' with rfl | rfl | rfl | rfl | rfl | rfl | rfl <;> simp only [Nat.reduceAdd, Nat.reduceSub, Nat.reduceMul, Int.reducePow, Int.reduceMul, Int.reduceNeg] at hf ⊢ <;> omega
  by_cases c : -(128 * 256 ^ (d + 1 - 1)) ≤ x ∧ x < 128 * 256 ^ (d + 1 - 1)
  · rw [decide_eq_true c]
    rcases key.mpr c with h | h
    · simp only [decide_eq_true h]; simp
    · simp only [decide_eq_true h]; simp
  · rw [decide_eq_false c]
    have h := fun q => c (key.mp q)
    rw [decide_eq_false (fun q => h (.inl q)), decide_eq_false (fun q => h (.inr q))]
    simp

/-- The reference writes all eight bytes, and drops what is too much. -/
theorem spec_l1 (x : Int) (d : Nat) (hn : 1 ≤ d → ¬ fit x d) : ∀ (e k : Nat), d + e ≤ 7 → fit x (d + 1) → (∀ i, d + 1 ≤ i → i ≤ 8 → fit x i) → e < k → spec_PutInteger.l1 k (by' x (d + e + 1)) = some (by' x (d + 1)) := by
  intro e
  induction e with
  | zero =>
    intro k he hf hall hk
    obtain ⟨k, rfl⟩ : ∃ m, k = m + 1 := ⟨k - 1, by omega⟩
    rw [spec_PutInteger.l1, by_len]
    cases d with
    | zero => rw [if_neg (by omega)]
    | succ d =>
      rw [if_pos (by omega), shortest_tells, Nat.add_zero, short_by x d (by omega) hf, decide_eq_false (hn (by omega))]
      simp
  | succ e ih =>
    intro k he hf hall hk
    obtain ⟨k, rfl⟩ : ∃ m, k = m + 1 := ⟨k - 1, by omega⟩
    rw [spec_PutInteger.l1, by_len, if_pos (by omega), shortest_tells, show d + (e + 1) + 1 = d + e + 2 by omega, short_by x (d + e) (by omega) (hall _ (by omega) (by omega)), decide_eq_true (hall _ (by omega) (by omega))]
    simp only [Option.bind_some, Bool.not_true, Bool.false_eq_true, if_false]
    rw [if_pos (by omega)]
    have := by_drop x (d + e + 1)
    rw [show (1 : Int).toNat = 1 from rfl, show d + e + 2 = d + e + 1 + 1 by omega, this]
    exact ih k (by omega) hf hall (by omega)
theorem fit_up (x : Int) (m : Nat) (h : fit x (m + 1)) : fit x (m + 2) := by
  unfold fit at *
  rw [show m + 2 - 1 = m + 1 by omega, Int.pow_succ]
  rw [Nat.add_sub_cancel] at h
  have hp : (0 : Int) < 256 ^ m := Int.pow_pos (by decide)
  generalize (256 : Int) ^ m = p at *
  omega
theorem fit_all (x : Int) (m : Nat) (h : fit x (m + 1)) : ∀ e, fit x (m + e + 1)
  | 0 => h
  | e + 1 => fit_up x (m + e) (fit_all x m h e)

theorem spec_l0 (x : Int) : ∀ (d j k : Nat), j + d = 8 → d < k → spec_PutInteger.l0 k x ((List.range j).map (bt x 8)) (7 - (j : Int)) = spec_PutInteger.l1 (k - d - 1) (by' x 8) := by
  intro d
  induction d with
  | zero =>
    intro j k hj hk
    obtain ⟨k, rfl⟩ : ∃ m, k = m + 1 := ⟨k - 1, by omega⟩
    have : j = 8 := by omega
    subst this
    rw [spec_PutInteger.l0, if_neg (by omega)]
    rfl
  | succ d ih =>
    intro j k hj hk
    obtain ⟨k, rfl⟩ : ∃ m, k = m + 1 := ⟨k - 1, by omega⟩
    rw [spec_PutInteger.l0, if_pos (by omega), wrap64_id (x := 8 * (7 - (j : Int))) (by omega) (by omega), if_pos (by omega), if_pos (by simp; omega), wrap64_id (by omega) (by omega)]
    have := ih (j + 1) k (by omega) (by omega)
    rw [List.range_succ, List.map_append] at this
    rw [show 8 * (7 - (j : Int)) = ((8 * (8 - 1 - j) : Nat) : Int) by omega, shr_lit _ _ (by omega), show k + 1 - (d + 1) - 1 = k - d - 1 by omega, ← this]
    congr 1
    omega

theorem put_spec (x : Int) (d : Nat) (hd : d ≤ 7) (hf : fit x (d + 1)) (hn : 1 ≤ d → ¬ fit x d) (k : Nat) (hk : 20 ≤ k) : spec_PutInteger.f k x = some (by' x (d + 1)) := by
  unfold spec_PutInteger.f
  have e := spec_l0 x 8 0 k (by omega) (by omega)
  simp only [List.range_zero, List.map_nil, Int.natCast_zero, Int.sub_zero] at e
  rw [e]
  have := spec_l1 x d hn (7 - d) (k - 8 - 1) (by omega) hf (fun i h0 h1 => by
    have := fit_all x d hf (i - 1 - d)
    rwa [show d + (i - 1 - d) + 1 = i by omega] at this) (by omega)
  rwa [show d + (7 - d) + 1 = 8 by omega] at this

theorem U_by (x : Int) (m : Nat) : ∀ j, j ≤ m → ∃ q, U (by' x m) j = x / 2 ^ (8 * (m - j)) - 256 ^ j * q ∧ q = x / 2 ^ (8 * m)
  | 0, _ => ⟨_, by simp [U], rfl⟩
  | j + 1, h => by
    obtain ⟨q, e, hq⟩ := U_by x m j (by omega)
    refine ⟨q, ?_, hq⟩
    rw [U, e, by_rd x m j (by omega)]
    unfold bt
    rw [show m - 1 - j = m - (j + 1) by omega]
    have e2 : x / 2 ^ (8 * (m - j)) = x / 2 ^ (8 * (m - (j + 1))) / 256 := by
      rw [Int.ediv_ediv_of_nonneg (Int.le_of_lt (Int.pow_pos (by decide))), show 8 * (m - j) = 8 * (m - (j + 1)) + 8 by omega, Int.pow_add]
      rfl
    rw [e2, Int.pow_succ]
    have e3 : (256 : Int) ^ j * 256 * q = 256 ^ j * q * 256 := by rw [Int.mul_assoc, Int.mul_comm 256 q, ← Int.mul_assoc]
    rw [e3]
    generalize (256 : Int) ^ j * q = s
    omega
theorem Sg_by (x : Int) (d : Nat) (hd : d ≤ 7) (hf : fit x (d + 1)) : Sg (by' x (d + 1)) (d + 1) = x := by
  obtain ⟨q, e, hq⟩ := U_by x (d + 1) (d + 1) (by omega)
  have r0 := by_rd x (d + 1) 0 (by omega)
  rw [show ((0 : Nat) : Int) = 0 from rfl] at r0
  unfold Sg
  rw [e, r0, hq]
  unfold bt
  unfold fit at hf
  clear e r0 hq
  have hd' : d = 0 ∨ d = 1 ∨ d = 2 ∨ d = 3 ∨ d = 4 ∨ d = 5 ∨ d = 6 ∨ d = 7 := by omega
  rcases hd' with rfl | rfl | rfl | rfl | rfl | rfl | rfl | rfl <;> simp only [Nat.reduceAdd, Nat.reduceSub, Nat.reduceMul, Int.reducePow, Int.reduceMul, Int.reduceNeg, Int.ediv_one] at hf ⊢ <;> split <;> omega

theorem FnPutInt64 : laws_FnPutInt64.Pure := by
  intro x hx
  obtain ⟨h0, h1⟩ := wf_i64 hx
  obtain ⟨d, hd, e, hf, hn⟩ := put_encode x h0 h1 30 (by omega)
  refine ⟨30, ?_⟩
  unfold laws_FnPutInt64.f
  rw [e, put_spec x d hd hf hn 30 (by omega)]
  obtain ⟨n, ok, er, ho, hv⟩ := readInt_tells (by' x (d + 1)) (by_bytes x (d + 1)) (by rw [by_len]; omega) 30 (by omega)
  have hs : short (by' x (d + 1)) = true := by
    cases d with
    | zero => exact short_one x
    | succ d => rw [short_by x d (by omega) hf, decide_eq_false (hn (by omega))]; rfl
  have ok1 : ok = true := by rw [ho, hs, by_len]; simpa using hd
  have nx : n = x := by rw [hv ok1, by_len, Sg_by x d hd hf, wrap64_id h0 h1]
  have eq : bytes_Equal.f (by' x (d + 1)) (by' x (d + 1)) = some true := by simp [bytes_Equal.f]
  simp only [Option.bind_some, er, eq, ok1, nx]
  simp

end Go.Proofs.Ytmiemfgcggkbnaa.Pure
