/- An object identifier is written exactly if its first number is at most 2, and, below that, the second one below 40; and read as it was: the law FnPutOID answers true for every list of integers. This text: the plain statement over lists of numbers. -/
import Derived.Test.YtmiemfgcggkbnaaQPx4
import Derived.Test.YtmiemfgcggkbnaaPBase
set_option linter.unusedSimpArgs false
set_option linter.unusedVariables false
namespace Go.Proofs.Ytmiemfgcggkbnaa.Pure
open Go.RowKit Go.Proofs.Ytmiemfgcggkbnaa.QP Go.Proofs.YtmiemfgcggkbnaaW.PrintWords Go.Proofs.YtmiemfgcggkbnaaW.PrintLast Go.Proofs.Ytmiemfgcggkbnaa.Math Go.Proofs.Ytmiemfgcggkbnaa.PBase

/-- The bytes of a list of numbers. -/
def encs : List Int → List Int
  | [] => []
  | x :: r => enc x.toNat ++ encs r
/-- Every number is one of the law's. -/
def Small (l : List Int) : Prop := ∀ x ∈ l, 0 ≤ x ∧ x < 1073741824

theorem descD_length (n : Nat) : ∀ j, (descD n j).length = j
  | 0 => rfl
  | j + 1 => by rw [descD]; simp [descD_length n j]
theorem enc_length (n : Nat) : (enc n).length = nd (n / 128) + 1 := by rw [enc_desc, descD_length]
theorem enc_short (n : Nat) (h : n < 34359738368) : (enc n).length ≤ 5 := by
  rw [enc_length]
  have := nd_le 4 (n / 128) (by omega)
  omega
theorem encs_short : ∀ (l : List Int), Small l → (encs l).length ≤ 5 * l.length
  | [], _ => by simp [encs]
  | x :: r, h => by
    have h1 := h x (by simp)
    have := enc_short x.toNat (by omega)
    have := encs_short r (fun y hy => h y (by simp [hy]))
    simp only [encs, List.length_append, List.length_cons]; omega
theorem encs_bytes : ∀ (l : List Int), Bytes (encs l)
  | [] => by intro x hx; simp [encs] at hx
  | x :: r => by
    intro y hy
    simp only [encs, List.mem_append] at hy
    rcases hy with hy | hy
    · exact enc_bytes _ y hy
    · exact encs_bytes r y hy
theorem drop_at (l : List Int) (i : Nat) (h : i < l.length) : l.drop i = rd l i :: l.drop (i + 1) := by
  rw [List.drop_eq_getElem_cons h]
  congr 1
  unfold rd
  rw [Int.toNat_natCast, List.getD_eq_getElem?_getD, List.getElem?_eq_getElem h]
  rfl
theorem rd_small {l : List Int} (hs : Small l) (i : Nat) (h : i < l.length) : 0 ≤ rd l i ∧ rd l i < 1073741824 := by
  have : rd l i = l[i] := by
    unfold rd
    rw [Int.toNat_natCast, List.getD_eq_getElem?_getD, List.getElem?_eq_getElem h]
    rfl
  rw [this]
  exact hs _ (List.getElem_mem h)

theorem p9 : (128 : Nat) ^ 9 = 9223372036854775808 := by decide
theorem app_z (k : Nat) (acc : List Int) (x : Int) (h0 : 0 ≤ x) (h1 : x < 2147483648) (hk : 12 ≤ k) (ha : acc.length < 50000) : asn1_appendBase128Int.f k acc x = some (acc ++ enc x.toNat) := by
  have := app_f k acc x.toNat (by rw [p9]; omega) hk ha
  rwa [Int.toNat_of_nonneg h0] at this
theorem put_z (k : Nat) (x : Int) (h0 : 0 ≤ x) (h1 : x < 2147483648) (hk : 12 ≤ k) : spec_Put128.f k x = some (enc x.toNat) := by
  have := put_f k x.toNat (by rw [p9]; omega) hk
  rwa [Int.toNat_of_nonneg h0] at this
theorem len_z (k : Nat) (x : Int) (h0 : 0 ≤ x) (h1 : x < 2147483648) (hk : 12 ≤ k) : asn1_base128IntLength.f k x = some ((enc x.toNat).length : Int) := by
  have := len_f k x.toNat (by rw [p9]; omega) (by omega)
  rwa [Int.toNat_of_nonneg h0, ← enc_length] at this

theorem encode_l0 (l : List Int) (hs : Small l) (hl : l.length ≤ 30) : ∀ (d i k : Nat) (acc : List Int), i + d = l.length → d + 13 ≤ k → acc.length + 5 * d ≤ 1000 →
    oidEncode.l0 k l acc i = some (acc ++ encs (l.drop i)) := by
  intro d
  induction d with
  | zero =>
    intro i k acc hi hk ha
    obtain ⟨k, rfl⟩ : ∃ m, k = m + 1 := ⟨k - 1, by omega⟩
    rw [oidEncode.l0, if_neg (by omega), List.drop_of_length_le (by omega)]
    simp [encs]
  | succ d ih =>
    intro i k acc hi hk ha
    obtain ⟨k, rfl⟩ : ∃ m, k = m + 1 := ⟨k - 1, by omega⟩
    have hr := rd_small hs i (by omega)
    have he := enc_short (rd l i).toNat (by omega)
    rw [oidEncode.l0, if_pos (by omega), if_pos (by omega), app_z k acc _ hr.1 (by omega) (by omega) (by omega)]
    simp only [Option.bind_some]
    rw [wrap64_id (by omega) (by omega), drop_at l i (by omega)]
    have := ih (i + 1) k (acc ++ enc (rd l i).toNat) (by omega) (by omega) (by simp; omega)
    rw [show ((i : Int) + 1) = ((i + 1 : Nat) : Int) by omega, this]
    simp [encs]
theorem length_l0 (l : List Int) (hs : Small l) (hl : l.length ≤ 30) : ∀ (d i k c : Nat), i + d = l.length → d + 13 ≤ k → c + 5 * d ≤ 1000 →
    asn1_oidEncoder_Len.l0 k l c i = some ((c + (encs (l.drop i)).length : Nat) : Int) := by
  intro d
  induction d with
  | zero =>
    intro i k c hi hk ha
    obtain ⟨k, rfl⟩ : ∃ m, k = m + 1 := ⟨k - 1, by omega⟩
    rw [asn1_oidEncoder_Len.l0, if_neg (by omega), List.drop_of_length_le (by omega)]
    simp [encs]
  | succ d ih =>
    intro i k c hi hk ha
    obtain ⟨k, rfl⟩ : ∃ m, k = m + 1 := ⟨k - 1, by omega⟩
    have hr := rd_small hs i (by omega)
    have he := enc_short (rd l i).toNat (by omega)
    rw [asn1_oidEncoder_Len.l0, if_pos (by omega), if_pos (by omega), len_z k _ hr.1 (by omega) (by omega)]
    simp only [Option.bind_some]
    rw [wrap64_id (by omega) (by omega), wrap64_id (by omega) (by omega), drop_at l i (by omega)]
    have := ih (i + 1) k (c + (enc (rd l i).toNat).length) (by omega) (by omega) (by omega)
    rw [show ((i : Int) + 1) = ((i + 1 : Nat) : Int) by omega, show ((c : Int) + ((enc (rd l i).toNat).length : Int)) = ((c + (enc (rd l i).toNat).length : Nat) : Int) by omega, this]
    simp [encs]; omega
theorem spec_l0 (l : List Int) (hs : Small l) (hl : l.length ≤ 30) : ∀ (d i k : Nat) (acc : List Int), i + d = l.length → d + 13 ≤ k → acc.length + 5 * d ≤ 1000 →
    spec_PutIdentifier.l0 k acc l l.length i = some (acc ++ encs (l.drop i)) := by
  intro d
  induction d with
  | zero =>
    intro i k acc hi hk ha
    obtain ⟨k, rfl⟩ : ∃ m, k = m + 1 := ⟨k - 1, by omega⟩
    rw [spec_PutIdentifier.l0, if_neg (by omega), List.drop_of_length_le (by omega)]
    simp [encs]
  | succ d ih =>
    intro i k acc hi hk ha
    obtain ⟨k, rfl⟩ : ∃ m, k = m + 1 := ⟨k - 1, by omega⟩
    have hr := rd_small hs i (by omega)
    have he := enc_short (rd l i).toNat (by omega)
    rw [spec_PutIdentifier.l0, if_pos (by omega), if_pos (by omega), if_pos (by omega), put_z k _ hr.1 (by omega) (by omega)]
    simp only [Option.bind_some]
    rw [if_pos (by omega), wrap64_id (by omega) (by omega), drop_at l i (by omega)]
    have := ih (i + 1) k (acc ++ enc (rd l i).toNat) (by omega) (by omega) (by simp; omega)
    rw [show ((i : Int) + 1) = ((i + 1 : Nat) : Int) by omega, this]
    simp [encs]

/-- The first two numbers as one. -/
def lead (l : List Int) : Int := 40 * rd l 0 + rd l 1
def bytesOf' (l : List Int) : List Int := enc (lead l).toNat ++ encs (l.drop 2)

theorem zz_tells (l : List Int) (hs : Small l) (hl : l.length ≤ 30) (h2 : 2 ≤ l.length) (hb : rd l 0 ≤ 2) (k : Nat) (hk : 100 ≤ k) : zzEncO.f k l = some (bytesOf' l) := by
  have r0 := rd_small hs 0 (by omega)
  have r1 := rd_small hs 1 (by omega)
  rw [show ((0 : Nat) : Int) = 0 from rfl] at r0
  rw [show ((1 : Nat) : Int) = 1 from rfl] at r1
  have hv : wrap64 (wrap64 (rd l 0 * 40) + rd l 1) = lead l := by
    unfold lead
    rw [wrap64_id (x := rd l 0 * 40) (by omega) (by omega), wrap64_id (by omega) (by omega)]; omega
  have l0 : 0 ≤ lead l ∧ lead l < 2147483648 := by unfold lead; omega
  have he := enc_short (lead l).toNat (by omega)
  have he1 : 0 < (enc (lead l).toNat).length := by rw [enc_length]; omega
  have hc := encs_short (l.drop 2) (fun x hx => hs x (List.mem_of_mem_drop hx))
  rw [List.length_drop] at hc
  have e1 : asn1_oidEncoder_Len.f k l = some (((bytesOf' l).length : Nat) : Int) := by
    unfold asn1_oidEncoder_Len.f
    rw [if_pos (by omega), if_pos (by omega), hv, len_z k _ l0.1 l0.2 (by omega)]
    simp only [Option.bind_some]
    have := length_l0 l hs hl (l.length - 2) 2 k (enc (lead l).toNat).length (by omega) (by omega) (by omega)
    rw [show ((2 : Nat) : Int) = 2 from rfl] at this
    rw [this]
    simp [bytesOf']
  have e2 : oidEncode.f k l = some (bytesOf' l) := by
    unfold oidEncode.f
    rw [if_pos (by omega), hv, app_z k [] _ l0.1 l0.2 (by omega) (by simp)]
    simp only [Option.bind_some, List.nil_append]
    have := encode_l0 l hs hl (l.length - 2) 2 k (enc (lead l).toNat) (by omega) (by omega) (by omega)
    rw [show ((2 : Nat) : Int) = 2 from rfl] at this
    rw [this]
    rfl
  have hB : (bytesOf' l).length = (enc (lead l).toNat).length + (encs (l.drop 2)).length := by simp [bytesOf']
  unfold zzEncO.f
  rw [e1]
  simp only [Option.bind_some]
  rw [if_pos (by omega), e2]
  simp

theorem put_l0 (l : List Int) (hs : Small l) (hl : l.length ≤ 30) : ∀ (d i k : Nat), i + d = l.length → d + 1 ≤ k →
    impl_PutOID.l0 k l l l.length i = (asn1_ZZPutOID.f (k - d - 1) l).bind fun bt => if bt.2.isNone = true then some (bt.1, true) else some ([], false) := by
  intro d
  induction d with
  | zero =>
    intro i k hi hk
    obtain ⟨k, rfl⟩ : ∃ m, k = m + 1 := ⟨k - 1, by omega⟩
    rw [impl_PutOID.l0, if_neg (by omega), if_pos (by simp; omega), List.nil_append]
    rfl
  | succ d ih =>
    intro i k hi hk
    obtain ⟨k, rfl⟩ : ∃ m, k = m + 1 := ⟨k - 1, by omega⟩
    have hr := rd_small hs i (by omega)
    rw [impl_PutOID.l0, if_pos (by omega), if_pos (by omega), if_pos (by omega), if_neg (by omega), if_neg (by omega), wrap64_id (by omega) (by omega)]
    rw [show ((i : Int) + 1) = ((i + 1 : Nat) : Int) by omega, ih (i + 1) k (by omega) (by omega), show k + 1 - (d + 1) - 1 = k - d - 1 by omega]
theorem putOID_tells (l : List Int) (hs : Small l) (hl : l.length ≤ 30) (h2 : 2 ≤ l.length) (k : Nat) (hk : 200 ≤ k) : impl_PutOID.f k l = if badOID l then some ([], false) else some (bytesOf' l, true) := by
  unfold impl_PutOID.f
  rw [if_neg (by omega)]
  have := put_l0 l hs hl l.length 0 k (by omega) (by omega)
  rw [show ((0 : Nat) : Int) = 0 from rfl] at this
  rw [this]
  unfold asn1_ZZPutOID.f
  by_cases c : badOID l
  · rw [if_pos c, if_pos c]; rfl
  · rw [if_neg c, if_neg c, zz_tells l hs hl h2 (by unfold badOID at c; omega) _ (by omega)]
    rfl

theorem spec_tells (l : List Int) (hs : Small l) (hl : l.length ≤ 30) (h2 : 2 ≤ l.length) (hb : rd l 0 ≤ 2) (k : Nat) (hk : 100 ≤ k) : spec_PutIdentifier.f k l = some (bytesOf' l) := by
  have r0 := rd_small hs 0 (by omega)
  have r1 := rd_small hs 1 (by omega)
  rw [show ((0 : Nat) : Int) = 0 from rfl] at r0
  rw [show ((1 : Nat) : Int) = 1 from rfl] at r1
  have hv : wrap64 (wrap64 (40 * rd l 0) + rd l 1) = lead l := by
    unfold lead
    rw [wrap64_id (x := 40 * rd l 0) (by omega) (by omega), wrap64_id (by omega) (by omega)]
  have l0 : 0 ≤ lead l ∧ lead l < 2147483648 := by unfold lead; omega
  have he := enc_short (lead l).toNat (by omega)
  unfold spec_PutIdentifier.f
  rw [if_pos (by omega), if_pos (by omega), hv, put_z k _ l0.1 l0.2 (by omega)]
  simp only [Option.bind_some]
  rw [if_pos (by omega)]
  have hd : (l.drop 2).length = l.length - 2 := List.length_drop ..
  have := spec_l0 (l.drop 2) (fun x hx => hs x (List.mem_of_mem_drop hx)) (by omega) (l.drop 2).length 0 k (enc (lead l).toNat) (by omega) (by omega) (by omega)
  rw [show ((0 : Nat) : Int) = 0 from rfl, List.drop_zero] at this
  rw [this]
  rfl

/-! ### read back -/
theorem Ns_encs (B : List Int) : ∀ (r : List Int) (f i : Nat), Small r → B.drop i = encs r → r.length ≤ f → i ≤ B.length → Ns B f i = some r := by
  intro r
  induction r with
  | nil =>
    intro f i hs h hf hi
    have : B.length ≤ i := by
      have := congrArg List.length h
      simp [encs] at this; omega
    cases f with
    | zero => rw [Ns, if_neg (by omega)]
    | succ f => rw [Ns, if_neg (by omega)]
  | cons x r ih =>
    intro f i hs h hf hi
    obtain ⟨f, rfl⟩ : ∃ m, f = m + 1 := ⟨f - 1, by simp at hf; omega⟩
    have h1 := hs x (by simp)
    have hlen := congrArg List.length h
    simp only [encs, List.length_append, List.length_drop, enc_length] at hlen
    have g := G_enc B x.toNat (by omega) i (encs r) h
    rw [Ns, if_pos (by omega), g]
    dsimp only
    have := ih f (i + (enc x.toNat).length) (fun y hy => hs y (by simp [hy])) (by
      rw [← List.drop_drop, h]; simp [encs]) (by simp at hf; omega) (by rw [enc_length]; omega)
    rw [show ((i : Int) + ((enc x.toNat).length : Int)) = ((i + (enc x.toNat).length : Nat) : Int) by omega, this, Int.toNat_of_nonneg h1.1]
    rfl

theorem Oid_back (l : List Int) (hs : Small l) (hl : l.length ≤ 30) (h2 : 2 ≤ l.length) (hb : ¬ badOID l) : Oid (bytesOf' l) = some l := by
  have r0 := rd_small hs 0 (by omega)
  have r1 := rd_small hs 1 (by omega)
  rw [show ((0 : Nat) : Int) = 0 from rfl] at r0
  rw [show ((1 : Nat) : Int) = 1 from rfl] at r1
  have l0 : 0 ≤ lead l ∧ lead l ≤ 2147483647 := by unfold lead; unfold badOID at hb; omega
  have he1 : 0 < (enc (lead l).toNat).length := by rw [enc_length]; omega
  have hB : (bytesOf' l).length = (enc (lead l).toNat).length + (encs (l.drop 2)).length := by simp [bytesOf']
  have g := G_enc (bytesOf' l) (lead l).toNat (by omega) 0 (encs (l.drop 2)) (by simp [bytesOf'])
  rw [show ((0 : Nat) : Int) = 0 from rfl] at g
  unfold Oid
  rw [if_neg (by omega), g]
  dsimp only
  have hge : ∀ (r : List Int), r.length ≤ (encs r).length := by
    intro r
    induction r with
    | nil => simp
    | cons x r ih => simp only [encs, List.length_append, List.length_cons, enc_length]; omega
  have h3 := hge (l.drop 2)
  have ns := Ns_encs (bytesOf' l) (l.drop 2) (bytesOf' l).length (enc (lead l).toNat).length (fun x hx => hs x (List.mem_of_mem_drop hx)) (by simp [bytesOf']) (by omega) (by omega)
  rw [show (0 : Int) + ((enc (lead l).toNat).length : Int) = (((enc (lead l).toNat).length : Nat) : Int) by omega, ns, Int.toNat_of_nonneg l0.1]
  simp only [Option.map_some, Option.some.injEq]
  have e0 := drop_at l 0 (by omega)
  have e1 := drop_at l 1 (by omega)
  rw [List.drop_zero, e1] at e0
  rw [show ((0 : Nat) : Int) = 0 from rfl, show ((1 : Nat) : Int) = 1 from rfl] at e0
  have ht : two (lead l) = [rd l 0, rd l 1] := by
    unfold two lead
    unfold badOID at hb
    by_cases c : 40 * rd l 0 + rd l 1 < 80
    · rw [if_pos c, Int.tdiv_eq_ediv_of_nonneg (by omega), Int.tmod_eq_emod_of_nonneg (by omega), wrap64_id (by omega) (by omega)]
      congr 1
      · omega
      · congr 1; omega
    · rw [if_neg c, wrap64_id (by omega) (by omega)]
      congr 1
      · omega
      · congr 1; omega
  rw [ht]
  exact e0.symm

/-! ### the law's own condition -/
theorem numbers_l0 (l : List Int) (hl : l.length ≤ 2147483647) : ∀ (d i k : Nat), i + d = l.length → d + 1 ≤ k →
    ∃ t, laws_numbers.l0 k l l l.length i = some t ∧ (t = true → (∀ x ∈ l.drop i, 0 ≤ x ∧ x < 1073741824) ∧ 2 ≤ l.length ∧ l.length ≤ 30) := by
  intro d
  induction d with
  | zero =>
    intro i k hi hk
    obtain ⟨k, rfl⟩ : ∃ m, k = m + 1 := ⟨k - 1, by omega⟩
    rw [laws_numbers.l0, if_neg (by omega)]
    by_cases c : (l.length : Int) ≥ 2
    · rw [if_pos c]
      refine ⟨_, rfl, fun h => ⟨?_, by omega, by have := of_decide_eq_true h; omega⟩⟩
      rw [List.drop_of_length_le (by omega)]; simp
    · rw [if_neg c]
      exact ⟨_, rfl, by simp⟩
  | succ d ih =>
    intro i k hi hk
    obtain ⟨k, rfl⟩ : ∃ m, k = m + 1 := ⟨k - 1, by omega⟩
    rw [laws_numbers.l0, if_pos (by omega), if_pos (by omega), if_pos (by omega)]
    by_cases c1 : rd l i < 0
    · rw [if_pos c1]; exact ⟨_, rfl, by simp⟩
    · rw [if_neg c1]
      by_cases c2 : rd l i ≥ 1073741824
      · rw [if_pos c2]; exact ⟨_, rfl, by simp⟩
      · rw [if_neg c2, wrap64_id (by omega) (by omega), show ((i : Int) + 1) = ((i + 1 : Nat) : Int) by omega]
        obtain ⟨t, e, h⟩ := ih (i + 1) k (by omega) (by omega)
        refine ⟨t, e, fun ht => ⟨?_, (h ht).2⟩⟩
        rw [drop_at l i (by omega)]
        intro x hx
        simp only [List.mem_cons] at hx
        rcases hx with rfl | hx
        · omega
        · exact (h ht).1 x hx

theorem one23 (k : Nat) (hk : 200 ≤ k) : ∃ b, impl_PutOID.f k [1, 2, 3] = some (b, true) := by
  rw [putOID_tells [1, 2, 3] (by intro x hx; simp at hx; omega) (by simp) (by simp) k hk]
  exact ⟨_, by rw [if_neg (by decide)]⟩

theorem FnPutOID : laws_FnPutOID.Pure := by
  intro l hl hl2 hb
  refine ⟨l.length + 1000, ?_⟩
  unfold laws_FnPutOID.f
  by_cases h1 : (l.length : Int) > 2147483647
  · rw [if_pos h1]
  rw [if_neg h1]
  unfold laws_numbers.f
  obtain ⟨t, e, h⟩ := numbers_l0 l (by omega) l.length 0 (l.length + 1000) (by omega) (by omega)
  rw [show ((0 : Nat) : Int) = 0 from rfl, List.drop_zero] at *
  rw [e]
  simp only [Option.bind_some]
  cases t with
  | false => rw [if_neg (by simp)]
  | true =>
    obtain ⟨hs, h2, h30⟩ := h rfl
    have hs : Small l := hs
    rw [if_pos rfl, if_pos (by omega)]
    obtain ⟨b3, e3⟩ := one23 (l.length + 999) (by omega)
    have put := putOID_tells l hs h30 h2 (l.length + 999) (by omega)
    have bad : ∀ x3 : Bool, x3 = !decide (badOID l) → laws_FnPutOID.j0 (l.length + 1000) l x3 = some true := by
      intro x3 hx
      rw [show l.length + 1000 = (l.length + 999) + 1 from rfl, laws_FnPutOID.j0, put]
      by_cases c : badOID l
      · rw [if_pos c]
        rw [decide_eq_true c] at hx
        simp only [Bool.not_true] at hx
        subst hx
        simp only [Option.bind_some]
        rw [if_neg (by simp), e3]
        simp
      · rw [if_neg c]
        rw [decide_eq_false c] at hx
        simp only [Bool.not_false] at hx
        subst hx
        simp only [Option.bind_some]
        rw [if_neg (by simp), e3]
        simp only [Option.bind_some, if_true]
        have hc := encs_short (l.drop 2) (fun x hx => hs x (List.mem_of_mem_drop hx))
        rw [List.length_drop] at hc
        have r0 := rd_small hs 0 (by omega)
        have r1 := rd_small hs 1 (by omega)
        rw [show ((0 : Nat) : Int) = 0 from rfl] at r0
        rw [show ((1 : Nat) : Int) = 1 from rfl] at r1
        have hb2 : rd l 0 ≤ 2 := by unfold badOID at c; omega
        have l0 : 0 ≤ lead l ∧ lead l < 2147483648 := by unfold lead; omega
        have he := enc_short (lead l).toNat (by omega)
        have hB : (bytesOf' l).length = (enc (lead l).toNat).length + (encs (l.drop 2)).length := by simp [bytesOf']
        have hby : Bytes (bytesOf' l) := by
          intro y hy
          simp only [bytesOf', List.mem_append] at hy
          rcases hy with hy | hy
          · exact enc_bytes _ y hy
          · exact encs_bytes _ y hy
        obtain ⟨x, ok, er, his⟩ := readOID_tells (bytesOf' l) hby (by omega) (l.length + 999) (by omega)
        have ob := Oid_back l hs h30 h2 c
        have ok1 : ok = true := by rw [his.1, ob]; rfl
        have xl : x = l := his.2 l ob
        subst ok1; subst xl
        have eq : bytes_Equal.f (bytesOf' x) (bytesOf' x) = some true := by simp [bytes_Equal.f]
        rw [er, spec_tells x hs h30 h2 hb2 _ (by omega)]
        simp only [Option.bind_some, eq, if_true]
        rw [equal_f x (by omega) _ (by omega)]
        simp
    by_cases c2 : rd l 0 = 2
    · rw [if_pos c2]
      exact bad true (by rw [decide_eq_false (by unfold badOID; omega)]; rfl)
    · rw [if_neg c2]
      by_cases c3 : rd l 0 < 2
      · rw [if_pos c3, if_pos (by omega)]
        refine bad _ ?_
        by_cases c4 : rd l 1 < 40
        · rw [decide_eq_true c4, decide_eq_false (by unfold badOID; omega)]; rfl
        · rw [decide_eq_false c4, decide_eq_true (by unfold badOID; omega)]; rfl
      · rw [if_neg c3]
        exact bad false (by rw [decide_eq_true (by unfold badOID; omega)]; rfl)

end Go.Proofs.Ytmiemfgcggkbnaa.Pure
