/- What the readers of a tag and a length come to, the package's and the reference's: the same. -/
import Derived.Test.YtapnkngcnlomhaaQRx5
import Derived.Test.YtapnkngcnlomhaaRRead
set_option linter.unusedSimpArgs false
set_option linter.unusedVariables false
namespace Go.Proofs.Ytapnkngcnlomhaa.RHdr
open Go.RowKit Go.Proofs.Ytapnkngcnlomhaa.QR Go.Proofs.YtapnkngcnlomhaaW.PrintWords Go.Proofs.YtapnkngcnlomhaaW.PrintLast Go.Proofs.Ytapnkngcnlomhaa.Math Go.Proofs.Ytapnkngcnlomhaa.RRead

/-- r more bytes of a length, from place o on, v read so far. -/
def LL (b : List Int) : Nat → Int → Int → Option (Int × Int)
  | 0, o, v => if 128 ≤ v then some (v, o) else none
  | r + 1, o, v => if o < (b.length : Int) then (if 8388608 ≤ v then none else if v * 256 + rd b o = 0 then none else LL b r (o + 1) (v * 256 + rd b o)) else none
/-- A length, from place o on. -/
def Len (b : List Int) (o : Int) : Option (Int × Int) :=
  if o < (b.length : Int) then (if rd b o < 128 then some (rd b o, o + 1) else if rd b o = 128 then none else LL b (rd b o - 128).toNat (o + 1) 0) else none
/-- A header, from place i on: its class, tag, length, whether it is compound, and the place behind it. -/
def Hd (b : List Int) (i : Int) : Option (Int × Int × Int × Bool × Int) :=
  if i < (b.length : Int) then
    (if rd b i % 32 = 31 then
      (match G b 5 (i + 1) 0 with
       | none => none
       | some (t, o) => if t < 31 then none else (Len b o).map fun p => (rd b i / 64, t, p.1, decide (rd b i / 32 % 2 = 1), p.2))
     else (Len b (i + 1)).map fun p => (rd b i / 64, rd b i % 32, p.1, decide (rd b i / 32 % 2 = 1), p.2))
  else none

theorem LL_short (b : List Int) : ∀ (r : Nat) (o v : Int), (b.length : Int) < o + r → o ≤ b.length → LL b r o v = none := by
  intro r
  induction r with
  | zero => intro o v h h2; omega
  | succ r ih =>
    intro o v h h2
    rw [LL]
    by_cases c : o < (b.length : Int)
    · rw [if_pos c]
      by_cases c2 : 8388608 ≤ v
      · rw [if_pos c2]
      · rw [if_neg c2]
        by_cases c3 : v * 256 + rd b o = 0
        · rw [if_pos c3]
        · rw [if_neg c3]; exact ih _ _ (by omega) (by omega)
    · rw [if_neg c]

/-- What a reader of a header told is the answer g. -/
def Same (g : Option (Int × Int × Int × Bool × Int)) (c t n : Int) (m : Bool) (o : Int) (ok : Bool) : Prop := ok = g.isSome ∧ ∀ c' t' n' m' o', g = some (c', t', n', m', o') → c = c' ∧ t = t' ∧ n = n' ∧ m = m' ∧ o = o'
theorem same_none (c t n : Int) (m : Bool) (o : Int) : Same none c t n m o false := ⟨rfl, by simp⟩
theorem same_some (c t n : Int) (m : Bool) (o : Int) : Same (some (c, t, n, m, o)) c t n m o true := ⟨rfl, by intro _ _ _ _ _ h; simpa using h⟩

theorem bit32 : ∀ n : Fin 256, (Go.bits .and .u8 ((n.val : Nat) : Int) 32 == 32) = decide (((n.val : Nat) : Int) / 32 % 2 = 1) ∧ (Go.bits .and .u8 ((n.val : Nat) : Int) 32 != 0) = decide (((n.val : Nat) : Int) / 32 % 2 = 1) := by decide +kernel
theorem bit32_eq {x : Int} (h0 : 0 ≤ x) (h1 : x ≤ 255) : (Go.bits .and .u8 x 32 == 32) = decide (x / 32 % 2 = 1) ∧ (Go.bits .and .u8 x 32 != 0) = decide (x / 32 % 2 = 1) := by
  obtain ⟨n, rfl⟩ := Int.eq_ofNat_of_zero_le h0
  exact bit32 ⟨n, by omega⟩
theorem join8 {v c : Int} (hv : 0 ≤ v) (hv2 : v < 8388608) (h0 : 0 ≤ c) (h1 : c ≤ 255) : Go.bits .or .i64 (wrap64 (v * 256)) (wrap64 c) = v * 256 + c := by
  rw [wrap64_id (by omega) (by omega), wrap64_id (by omega) (by omega), i64_join8 (by omega) (by omega) (by omega) (by omega) (by omega)]

theorem asn_l0 (b : List Int) (hb : Bytes b) (hl : b.length ≤ 10000) (N : Int) (hN : N ≤ 127) (c t : Int) (m : Bool) : ∀ (r k : Nat) (o v i : Int), i + r = N → 0 ≤ i → 0 ≤ o → o ≤ b.length → 0 ≤ v → v < 2147483648 → r + 1 ≤ k →
    ∃ c' t' n' m' o' e, asn1_parseTagAndLength.l0 k b o none N i c t v m = some (c', t', n', m', o', e) ∧ Same ((LL b r o v).map fun p => (c, t, p.1, m, p.2)) c' t' n' m' o' e.isNone := by
  intro r
  induction r with
  | zero =>
    intro k o v i hi hi0 ho ho2 hv hv2 hk
    obtain ⟨k, rfl⟩ : ∃ m, k = m + 1 := ⟨k - 1, by omega⟩
    rw [asn1_parseTagAndLength.l0, if_neg (by omega), LL]
    by_cases c1 : v < 128
    · rw [if_pos c1, if_neg (by omega)]; exact ⟨_, _, _, _, _, _, rfl, same_none ..⟩
    · rw [if_neg c1, if_pos (by omega)]; exact ⟨_, _, _, _, _, _, rfl, same_some ..⟩
  | succ r ih =>
    intro k o v i hi hi0 ho ho2 hv hv2 hk
    obtain ⟨k, rfl⟩ : ∃ m, k = m + 1 := ⟨k - 1, by omega⟩
    have hr := rd_byte hb o
    rw [asn1_parseTagAndLength.l0, if_pos (by omega), LL]
    by_cases c1 : o < (b.length : Int)
    · rw [if_neg (by omega), if_pos ho, if_pos c1, if_pos c1]
      by_cases c2 : v ≥ 8388608
      · rw [if_pos c2, if_pos (show (8388608 : Int) ≤ v by omega)]; exact ⟨_, _, _, _, _, _, rfl, same_none ..⟩
      · rw [if_neg c2, if_neg (show ¬ (8388608 : Int) ≤ v by omega), join8 hv (by omega) hr.1 hr.2]
        by_cases c3 : v * 256 + rd b o = 0
        · rw [if_pos c3, if_pos c3]; exact ⟨_, _, _, _, _, _, rfl, same_none ..⟩
        · rw [if_neg c3, if_neg c3, wrap64_id (x := o + 1) (by omega) (by omega), wrap64_id (x := i + 1) (by omega) (by omega)]
          exact ih k (o + 1) _ (i + 1) (by omega) (by omega) (by omega) (by omega) (by omega) (by omega) (by omega)
    · rw [if_pos (by omega), if_neg c1]; exact ⟨_, _, _, _, _, _, rfl, same_none ..⟩

theorem asn_j0 (b : List Int) (hb : Bytes b) (hl : b.length ≤ 10000) (c t n : Int) (m : Bool) (o : Int) (ho : 0 ≤ o) (ho2 : o ≤ b.length) (k : Nat) (hk : 130 ≤ k) :
    ∃ c' t' n' m' o' e, asn1_parseTagAndLength.j0 k b o none c t n m = some (c', t', n', m', o', e) ∧ Same ((Len b o).map fun p => (c, t, p.1, m, p.2)) c' t' n' m' o' e.isNone := by
  obtain ⟨k, rfl⟩ : ∃ m, k = m + 1 := ⟨k - 1, by omega⟩
  have hr := rd_byte hb o
  rw [asn1_parseTagAndLength.j0]
  unfold Len
  by_cases c1 : o < (b.length : Int)
  · rw [if_neg (by omega), if_pos ho, if_pos c1, if_pos c1, u8_and128 hr.1 hr.2, u8_low7 hr.1 hr.2, wrap64_id (x := rd b o % 128) (by omega) (by omega), wrap64_id (x := o + 1) (by omega) (by omega)]
    by_cases c2 : rd b o < 128
    · rw [if_pos (by omega), if_pos c2, show rd b o % 128 = rd b o by omega]; exact ⟨_, _, _, _, _, _, rfl, same_some ..⟩
    · rw [if_neg (by omega), if_neg c2]
      by_cases c3 : rd b o = 128
      · rw [if_pos (by omega), if_pos c3]; exact ⟨_, _, _, _, _, _, rfl, same_none ..⟩
      · rw [if_neg (by omega), if_neg c3]
        have := asn_l0 b hb hl (rd b o % 128) (by omega) c t m (rd b o - 128).toNat k (o + 1) 0 0 (by omega) (by omega) (by omega) (by omega) (by omega) (by omega) (by omega)
        exact this
  · rw [if_pos (by omega), if_neg c1]; exact ⟨_, _, _, _, _, _, rfl, same_none ..⟩

theorem asn_f (b : List Int) (hb : Bytes b) (hl : b.length ≤ 10000) (i : Int) (hi : 0 ≤ i) (hi2 : i < b.length) (k : Nat) (hk : 150 ≤ k) :
    ∃ c' t' n' m' o' e, asn1_parseTagAndLength.f k b i = some (c', t', n', m', o', e) ∧ Same (Hd b i) c' t' n' m' o' e.isNone := by
  have hr := rd_byte hb i
  have e31 : wrap64 (Go.bits .and .u8 (rd b i) 31) = rd b i % 32 := by rw [u8_and31 _ hr.1 (by omega), wrap64_id (by omega) (by omega)]
  unfold asn1_parseTagAndLength.f Hd
  rw [if_neg (by omega), if_pos hi, if_pos hi2, if_pos hi2, e31, wrap64_id (x := i + 1) (by omega) (by omega), wrap64_id (x := rd b i / 64) (by omega) (by omega), (bit32_eq hr.1 hr.2).1]
  by_cases c1 : rd b i % 32 = 31
  · rw [if_pos c1, if_pos c1]
    obtain ⟨x, n, e, h, ht⟩ := parseBase_tells b hb hl (i + 1) (by omega) (by omega) k (by omega)
    rw [h]
    simp only [Option.bind_some]
    cases hg : G b 5 (i + 1) 0 with
    | none =>
      have := ht.1
      rw [hg] at this
      cases e with
      | none => simp at this
      | some e => simp only [Option.isNone_some, Bool.false_eq_true, if_false]; exact ⟨_, _, _, _, _, _, rfl, same_none ..⟩
    | some p =>
      obtain ⟨v, m⟩ := p
      have h1 := ht.1
      rw [hg] at h1
      obtain ⟨rfl, rfl⟩ := ht.2 v m hg
      have hgr := G_range b hb 5 (i + 1) 0 (by omega) (by omega) x n hg
      cases e with
      | some e => simp at h1
      | none =>
        simp only [Option.isNone_none, if_true]
        by_cases c2 : x < 31
        · rw [if_pos c2, if_pos c2]; exact ⟨_, _, _, _, _, _, rfl, same_none ..⟩
        · rw [if_neg c2, if_neg c2]
          exact asn_j0 b hb hl (rd b i / 64) x 0 _ n (by omega) (by omega) k (by omega)
  · rw [if_neg c1, if_neg c1]
    exact asn_j0 b hb hl (rd b i / 64) _ 0 _ (i + 1) (by omega) (by omega) k (by omega)

/-- What the thin package tells of a header. -/
theorem read_tells (b : List Int) (hb : Bytes b) (hl : b.length ≤ 10000) (i : Int) (hi : 0 ≤ i) (k : Nat) (hk : 160 ≤ k) :
    ∃ c' t' n' m' o' ok, impl_ReadHeader.f k b i = some (c', t', n', m', o', ok) ∧ Same (Hd b i) c' t' n' m' o' ok := by
  obtain ⟨k, rfl⟩ : ∃ m, k = m + 1 := ⟨k - 1, by omega⟩
  unfold impl_ReadHeader.f
  by_cases c : (b.length : Int) ≤ i
  · rw [if_pos ⟨hl, hi, c⟩]
    have : Hd b i = none := by unfold Hd; rw [if_neg (by omega)]
    rw [this]
    exact ⟨_, _, _, _, _, _, rfl, same_none ..⟩
  · rw [if_neg (by omega)]
    obtain ⟨c', t', n', m', o', e, h, hs⟩ := asn_f b hb hl i hi (by omega) k (by omega)
    unfold impl_ReadHeaderIn.f
    rw [short_tells b hl]
    simp only [Option.bind_some, if_true]
    rw [decide_eq_false (by omega), impl_ReadHeaderIn.j0, if_neg (by simp), copied_tells b hl]
    simp only [Option.bind_some, asn1_ZZHeader.f, h]
    cases e with
    | none => simp only [Option.isNone_none, if_true]; exact ⟨_, _, _, _, _, _, rfl, hs⟩
    | some e =>
      simp only [Option.isNone_some, Bool.false_eq_true, if_false]
      refine ⟨_, _, _, _, _, _, rfl, hs.1, fun c1 t1 n1 m1 o1 hg => ?_⟩
      have := hs.1
      rw [hg] at this
      simp at this

/-! ### the reference's reader -/
theorem spec_l0 (b : List Int) (hb : Bytes b) (hl : b.length ≤ 10000) (N : Int) (hN : N ≤ 127) (c t : Int) (m : Bool) : ∀ (r k : Nat) (o v i : Int), i + r = N → 0 ≤ i → 0 ≤ o → o + r ≤ b.length → 0 ≤ v → v < 2147483648 → (i = 0 → v = 0) → (0 < i → 0 < v) → r + 1 ≤ k →
    ∃ c' t' n' m' o' ok, spec_Header.l0 k b o N i c t v m = some (c', t', n', m', o', ok) ∧ Same ((LL b r o v).map fun p => (c, t, p.1, m, p.2)) c' t' n' m' o' ok := by
  intro r
  induction r with
  | zero =>
    intro k o v i hi hi0 ho ho2 hv hv2 hz hp hk
    obtain ⟨k, rfl⟩ : ∃ m, k = m + 1 := ⟨k - 1, by omega⟩
    rw [spec_Header.l0, if_neg (by omega), LL]
    by_cases c1 : v < 128
    · rw [decide_eq_false (by omega), if_neg (by omega)]; exact ⟨_, _, _, _, _, _, rfl, same_none ..⟩
    · rw [decide_eq_true (by omega), if_pos (by omega)]; exact ⟨_, _, _, _, _, _, rfl, same_some ..⟩
  | succ r ih =>
    intro k o v i hi hi0 ho ho2 hv hv2 hz hp hk
    obtain ⟨k, rfl⟩ : ∃ m, k = m + 1 := ⟨k - 1, by omega⟩
    have hr := rd_byte hb o
    have c1 : o < (b.length : Int) := by omega
    have eLL : LL b (r + 1) o v = if (8388608 : Int) ≤ v then none else if v * 256 + rd b o = 0 then none else LL b r (o + 1) (v * 256 + rd b o) := by rw [LL, if_pos c1]
    rw [spec_Header.l0, if_pos (by omega), eLL]
    have go : ∀ v', v' = v * 256 + rd b o → 0 < v' → v < 8388608 → ∃ c' t' n' m' o' ok, spec_Header.l0 k b (wrap64 (o + 1)) N (wrap64 (i + 1)) c t v' m = some (c', t', n', m', o', ok) ∧ Same ((LL b r (o + 1) v').map fun p => (c, t, p.1, m, p.2)) c' t' n' m' o' ok := by
      intro v' hv' hpos hlt
      rw [wrap64_id (x := o + 1) (by omega) (by omega), wrap64_id (x := i + 1) (by omega) (by omega)]
      exact ih k (o + 1) v' (i + 1) (by omega) (by omega) (by omega) (by omega) (by omega) (by omega) (by omega) (by omega) (by omega)
    by_cases c2 : i = 0
    · have hv0 := hz c2
      rw [if_pos c2, if_pos ho, if_pos c1]
      by_cases c3 : rd b o = 0
      · rw [if_pos c3, if_neg (show ¬ (8388608 : Int) ≤ v by omega), if_pos (show v * 256 + rd b o = 0 by omega)]; exact ⟨_, _, _, _, _, _, rfl, same_none ..⟩
      · rw [if_neg c3, if_neg (show ¬ v ≥ (8388608 : Int) by omega), if_neg (show ¬ (8388608 : Int) ≤ v by omega), if_neg (show ¬ (v * 256 + rd b o = 0) by omega), join8 hv (by omega) hr.1 hr.2]
        exact go _ rfl (by omega) (by omega)
    · have hvp := hp (by omega)
      rw [if_neg c2]
      by_cases c4 : v ≥ 8388608
      · rw [if_pos c4, if_pos (show (8388608 : Int) ≤ v by omega)]; exact ⟨_, _, _, _, _, _, rfl, same_none ..⟩
      · rw [if_neg c4, if_pos ho, if_pos c1, if_neg (show ¬ (8388608 : Int) ≤ v by omega), if_neg (show ¬ (v * 256 + rd b o = 0) by omega), join8 hv (by omega) hr.1 hr.2]
        exact go _ rfl (by omega) (by omega)

theorem spec_j0 (b : List Int) (hb : Bytes b) (hl : b.length ≤ 10000) (c t : Int) (m : Bool) (o : Int) (ho : 0 ≤ o) (ho2 : o ≤ b.length) (k : Nat) (hk : 132 ≤ k) :
    ∃ c' t' n' m' o' ok, spec_Header.j0 k b o c t 0 m = some (c', t', n', m', o', ok) ∧ Same ((Len b o).map fun p => (c, t, p.1, m, p.2)) c' t' n' m' o' ok := by
  obtain ⟨k, rfl⟩ : ∃ m, k = m + 2 := ⟨k - 2, by omega⟩
  have hr := rd_byte hb o
  rw [spec_Header.j0]
  unfold Len
  by_cases c1 : o < (b.length : Int)
  · rw [if_neg (by omega), if_pos ho, if_pos c1, if_pos c1, wrap64_id (x := rd b o) (by omega) (by omega), wrap64_id (x := o + 1) (by omega) (by omega), i64_low7 hr.1 (by omega)]
    by_cases c2 : rd b o < 128
    · rw [if_pos c2, if_pos c2]; exact ⟨_, _, _, _, _, _, rfl, same_some ..⟩
    · rw [if_neg c2, if_neg c2]
      by_cases c3 : rd b o = 128
      · rw [if_pos (by omega), if_pos c3, spec_Header.j1, if_pos rfl]; exact ⟨_, _, _, _, _, _, rfl, same_none ..⟩
      · rw [if_neg (by omega), if_neg c3, wrap64_id (x := (b.length : Int) - (o + 1)) (by omega) (by omega)]
        by_cases c4 : rd b o % 128 > (b.length : Int) - (o + 1)
        · rw [decide_eq_true c4, spec_Header.j1, if_pos rfl, LL_short b _ _ _ (by omega) (by omega)]; exact ⟨_, _, _, _, _, _, rfl, same_none ..⟩
        · rw [decide_eq_false c4, spec_Header.j1, if_neg (by simp)]
          exact spec_l0 b hb hl (rd b o % 128) (by omega) c t m (rd b o - 128).toNat k (o + 1) 0 0 (by omega) (by omega) (by omega) (by omega) (by omega) (by omega) (by omega) (by omega) (by omega)
  · rw [if_pos (by omega), if_neg c1]; exact ⟨_, _, _, _, _, _, rfl, same_none ..⟩

theorem spec_f (b : List Int) (hb : Bytes b) (hl : b.length ≤ 10000) (i : Int) (hi : 0 ≤ i) (hi2 : i ≤ 10000) (k : Nat) (hk : 150 ≤ k) :
    ∃ c' t' n' m' o' ok, spec_Header.f k b i = some (c', t', n', m', o', ok) ∧ Same (Hd b i) c' t' n' m' o' ok := by
  have hr := rd_byte hb i
  have e31 : wrap64 (Go.bits .and .u8 (rd b i) 31) = rd b i % 32 := by rw [u8_and31 _ hr.1 (by omega), wrap64_id (by omega) (by omega)]
  unfold spec_Header.f Hd
  by_cases c0 : i < (b.length : Int)
  · rw [if_neg (by omega), if_pos hi, if_pos c0, if_pos c0, e31, wrap64_id (x := i + 1) (by omega) (by omega), wrap64_id (x := rd b i / 64) (by omega) (by omega), (bit32_eq hr.1 hr.2).2]
    by_cases c1 : rd b i % 32 = 31
    · rw [if_pos c1, if_pos c1]
      obtain ⟨x, n, ok, h, ht⟩ := specBase_tells b hb hl (i + 1) (by omega) (by omega) k (by omega)
      rw [h]
      simp only [Option.bind_some]
      cases hg : G b 5 (i + 1) 0 with
      | none =>
        have h1 := ht.1
        rw [hg] at h1
        rw [show ok = false from h1, if_neg (by simp)]
        exact ⟨_, _, _, _, _, _, rfl, same_none ..⟩
      | some p =>
        obtain ⟨v, m⟩ := p
        have h1 := ht.1
        rw [hg] at h1
        obtain ⟨rfl, rfl⟩ := ht.2 v m hg
        have hgr := G_range b hb 5 (i + 1) 0 (by omega) (by omega) x n hg
        rw [show ok = true from h1, if_pos rfl]
        dsimp only
        by_cases c2 : x < 31
        · rw [if_pos c2, if_pos c2]; exact ⟨_, _, _, _, _, _, rfl, same_none ..⟩
        · rw [if_neg c2, if_neg c2]
          exact spec_j0 b hb hl (rd b i / 64) x _ n (by omega) (by omega) k (by omega)
    · rw [if_neg c1, if_neg c1]
      exact spec_j0 b hb hl (rd b i / 64) _ _ (i + 1) (by omega) (by omega) k (by omega)
  · rw [if_pos (by omega), if_neg c0]; exact ⟨_, _, _, _, _, _, rfl, same_none ..⟩

theorem three_tells (k : Nat) (hk : 160 ≤ k) : ∃ c t o, ∃ m, impl_ReadHeader.f k [48, 3] 0 = some (c, t, 3, m, o, true) := by
  have hb2 : Bytes [48, 3] := by intro y hy; simp at hy; rcases hy with rfl | rfl <;> rfl
  obtain ⟨c, t, n, m, o, ok, h, hs⟩ := read_tells [48, 3] hb2 (by simp) 0 (by omega) k hk
  have e : Hd [48, 3] 0 = some (0, 16, 3, true, 2) := by decide
  rw [e] at hs
  obtain ⟨rfl, rfl, rfl, rfl, rfl⟩ := hs.2 _ _ _ _ _ rfl
  rw [show ok = true from hs.1] at h
  exact ⟨_, _, _, _, h⟩
end Go.Proofs.Ytapnkngcnlomhaa.RHdr
