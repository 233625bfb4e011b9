/- A header that is written is read as it was, wherever it stands: the plain part. -/
import Derived.Test.YtapnkngcnlomhaaQHx8
import Derived.Test.YtapnkngcnlomhaaHHead
import Derived.Test.YtapnkngcnlomhaaHHdr
set_option linter.unusedSimpArgs false
set_option linter.unusedVariables false
namespace Go.Proofs.Ytapnkngcnlomhaa.HBack
open Go.RowKit Go.Proofs.Ytapnkngcnlomhaa.QH Go.Proofs.YtapnkngcnlomhaaW.PrintWords Go.Proofs.YtapnkngcnlomhaaW.PrintLast Go.Proofs.Ytapnkngcnlomhaa.Math Go.Proofs.Ytapnkngcnlomhaa.HBase Go.Proofs.Ytapnkngcnlomhaa.HHead Go.Proofs.Ytapnkngcnlomhaa.HRead Go.Proofs.Ytapnkngcnlomhaa.HHdr

theorem drop_cons {B : List Int} {i : Nat} {x : Int} {s : List Int} (h : B.drop i = x :: s) : rd B (i : Int) = x ∧ i < B.length ∧ B.drop (i + 1) = s := by
  have hl : i < B.length := by
    rcases Nat.lt_or_ge i B.length with h1 | h1
    · exact h1
    · rw [List.drop_of_length_le h1] at h; cases h
  rw [List.drop_eq_getElem_cons hl] at h
  injection h with h1 h2
  refine ⟨?_, hl, h2⟩
  unfold rd
  rw [Int.toNat_natCast, List.getD_eq_getElem?_getD, List.getElem?_eq_getElem hl]
  exact h1

theorem D_range (t j : Nat) : 0 ≤ D t j ∧ D t j ≤ 255 := by unfold D; split <;> omega
theorem pow_step (t j : Nat) : ((t / 128 ^ (j + 1) : Nat) : Int) * 128 + ((t / 128 ^ j % 128 : Nat) : Int) = ((t / 128 ^ j : Nat) : Int) := by
  have : t / 128 ^ (j + 1) = t / 128 ^ j / 128 := by rw [Nat.pow_succ, Nat.div_div_eq_div_mul]
  rw [this]; omega
theorem G_reads (B : List Int) (t : Nat) (ht : t ≤ 2147483647) (rest : List Int) : ∀ (j i f : Nat), B.drop i = descD t (j + 1) ++ rest → j + 1 ≤ f → f ≤ 5 → (f = 5 → D t j ≠ 128) → G B f i ((t / 128 ^ (j + 1) : Nat) : Int) = some ((t : Int), (i : Int) + j + 1) := by
  intro j
  induction j with
  | zero =>
    intro i f h hf hf5 hne
    obtain ⟨f, rfl⟩ : ∃ m, f = m + 1 := ⟨f - 1, by omega⟩
    obtain ⟨h1, h2, h3⟩ := drop_cons (show B.drop i = D t 0 :: rest from h)
    have hd : D t 0 = ((t % 128 : Nat) : Int) := rfl
    have hp := pow_step t 0
    rw [Nat.pow_zero, Nat.div_one] at hp
    rw [G, if_pos (by omega), h1, hd, if_neg (by omega), if_pos (by omega), show ((t % 128 : Nat) : Int) % 128 = ((t % 128 : Nat) : Int) by omega, hp, if_pos (by omega)]
    simp
  | succ j ih =>
    intro i f h hf hf5 hne
    obtain ⟨f, rfl⟩ : ∃ m, f = m + 1 := ⟨f - 1, by omega⟩
    obtain ⟨h1, h2, h3⟩ := drop_cons (show B.drop i = D t (j + 1) :: (descD t (j + 1) ++ rest) from h)
    have hd : D t (j + 1) = 128 + ((t / 128 ^ (j + 1) % 128 : Nat) : Int) := by simp [D]
    have hp := pow_step t (j + 1)
    rw [G, if_pos (by omega), h1, if_neg (fun h => hne (by omega) h.2), hd, if_neg (by omega), show (128 + ((t / 128 ^ (j + 1) % 128 : Nat) : Int)) % 128 = ((t / 128 ^ (j + 1) % 128 : Nat) : Int) by omega, hp]
    have := ih (i + 1) f h3 (by omega) (by omega) (by omega)
    rw [show ((i + 1 : Nat) : Int) = (i : Int) + 1 by omega] at this
    rw [this]
    congr 2; omega

theorem nd_spec : ∀ (m : Nat), m / 128 ^ nd m = 0 ∧ (0 < nd m → 0 < m / 128 ^ (nd m - 1)) := by
  have key : ∀ (f m : Nat), m < f → m / 128 ^ nd m = 0 ∧ (0 < nd m → 0 < m / 128 ^ (nd m - 1)) := by
    intro f
    induction f with
    | zero => intro m h; omega
    | succ f ih =>
      intro m h
      by_cases h0 : m = 0
      · subst h0; rw [nd_zero]; simp
      · have e := nd_pos h0
        obtain ⟨a1, a2⟩ := ih (m / 128) (by omega)
        rw [e]
        constructor
        · rw [Nat.pow_succ, Nat.mul_comm, ← Nat.div_div_eq_div_mul]; exact a1
        · intro _
          rw [Nat.add_sub_cancel]
          rcases Nat.eq_zero_or_pos (nd (m / 128)) with z | z
          · rw [z, Nat.pow_zero, Nat.div_one]; omega
          · have := a2 z
            rw [show nd (m / 128) = (nd (m / 128) - 1) + 1 by omega, Nat.pow_succ, Nat.mul_comm, ← Nat.div_div_eq_div_mul]
            exact this
  intro m
  exact key (m + 1) m (by omega)

theorem G_enc (B : List Int) (t : Nat) (ht : t ≤ 2147483647) (i : Nat) (rest : List Int) (h : B.drop i = enc t ++ rest) : G B 5 i 0 = some ((t : Int), (i : Int) + (enc t).length) := by
  have h4 : nd (t / 128) ≤ 4 := nd_le 4 _ (by
    have : (128 : Nat) ^ 4 = 268435456 := by decide
    omega)
  have hlen : (enc t).length = nd (t / 128) + 1 := by
    rw [enc_desc]
    generalize nd (t / 128) + 1 = q
    induction q with
    | zero => rfl
    | succ q ih => rw [descD, List.length_cons, ih]
  obtain ⟨s1, s2⟩ := nd_spec (t / 128)
  have hz : t / 128 ^ (nd (t / 128) + 1) = 0 := by rw [Nat.pow_succ, Nat.mul_comm, ← Nat.div_div_eq_div_mul]; exact s1
  rw [enc_desc] at h
  have := G_reads B t ht rest (nd (t / 128)) i 5 h (by omega) (by omega) (by
    intro _
    rcases Nat.eq_zero_or_pos (nd (t / 128)) with z | z
    · rw [z]; unfold D; simp; omega
    · have s3 := s2 z
      have e : t / 128 ^ nd (t / 128) = t / 128 / 128 ^ (nd (t / 128) - 1) := by
        rw [Nat.div_div_eq_div_mul, ← Nat.pow_succ']; congr 2; omega
      have e2 : t / 128 ^ nd (t / 128) / 128 = 0 := by rw [Nat.div_div_eq_div_mul, ← Nat.pow_succ]; exact hz
      unfold D
      rw [if_neg (by omega)]
      omega)
  rw [hz] at this
  rw [hlen]
  rw [show ((0 : Nat) : Int) = 0 from rfl] at this
  rw [this]
  congr 2 <;> omega

theorem LL_reads (B : List Int) (n L : Nat) (hL : Takes n L) (h128 : 128 ≤ n) (hn : n ≤ 2147483647) (rest : List Int) : ∀ (j o : Nat), j ≤ L → B.drop o = be n j ++ rest → LL B j o ((n / 256 ^ j : Nat) : Int) = some ((n : Int), (o : Int) + j) := by
  intro j
  induction j with
  | zero =>
    intro o _ h
    rw [LL, Nat.pow_zero, Nat.div_one, if_pos (by omega)]
    simp
  | succ j ih =>
    intro o hj h
    obtain ⟨h1, h2, h3⟩ := drop_cons (show B.drop o = ((n / 256 ^ j % 256 : Nat) : Int) :: (be n j ++ rest) from h)
    have hs : n / 256 ^ (j + 1) = n / 256 ^ j / 256 := by rw [Nat.pow_succ, Nat.div_div_eq_div_mul]
    have hle : n / 256 ^ j ≤ n := Nat.div_le_self _ _
    have hpos := hL.below (by omega) j (by omega)
    have hp : ((n / 256 ^ (j + 1) : Nat) : Int) * 256 + ((n / 256 ^ j % 256 : Nat) : Int) = ((n / 256 ^ j : Nat) : Int) := by rw [hs]; omega
    rw [LL, if_pos (by omega), h1, if_neg (by rw [hs]; omega), hp, if_neg (by omega)]
    have := ih (o + 1) (by omega) h3
    rw [show ((o + 1 : Nat) : Int) = (o : Int) + 1 by omega] at this
    rw [this]
    congr 2; omega

theorem Len_reads (B : List Int) (n L : Nat) (hL : Takes n L) (hn : n ≤ 2147483647) (o : Nat) (rest : List Int) (h : B.drop o = lenBytes n L ++ rest) : Len B o = some ((n : Int), (o : Int) + (lenBytes n L).length) := by
  unfold lenBytes at h ⊢
  unfold Len
  by_cases c : n < 128
  · rw [if_pos c] at h ⊢
    obtain ⟨h1, h2, h3⟩ := drop_cons (show B.drop o = (n : Int) :: rest from h)
    rw [if_pos (by omega), h1, if_pos (by omega)]; rfl
  · rw [if_neg c] at h ⊢
    obtain ⟨h1, h2, h3⟩ := drop_cons (show B.drop o = (128 + (L : Int)) :: (be n L ++ rest) from h)
    have := hL.one
    have h4 := hL.four
    rw [if_pos (by omega), h1, if_neg (by omega), if_neg (by omega), show (128 + (L : Int) - 128).toNat = L by omega]
    have k := LL_reads B n L hL (by omega) hn rest L (o + 1) (by omega) h3
    rw [hL.zero, show ((0 : Nat) : Int) = 0 from rfl, show ((o + 1 : Nat) : Int) = (o : Int) + 1 by omega] at k
    rw [k, List.length_cons, be_length]
    congr 2; omega

theorem first_val_tab : ∀ (c : Fin 4) (t : Fin 32) (m : Bool), HHead.first ((c.val : Nat) : Int) ((t.val : Nat) : Int) m = ((c.val : Nat) : Int) * 64 + (if m then 32 else 0) + ((t.val : Nat) : Int) := by decide +kernel
theorem first_val (c t : Int) (m : Bool) (hc0 : 0 ≤ c) (hc : c ≤ 3) (ht0 : 0 ≤ t) (ht : t ≤ 31) : HHead.first c t m = c * 64 + (if m then 32 else 0) + t := by
  obtain ⟨c, rfl⟩ := Int.eq_ofNat_of_zero_le hc0
  obtain ⟨t, rfl⟩ := Int.eq_ofNat_of_zero_le ht0
  exact first_val_tab ⟨c, by omega⟩ ⟨t, by omega⟩ m

theorem Hd_reads (B : List Int) (c : Int) (hc0 : 0 ≤ c) (hc : c ≤ 3) (t n L : Nat) (ht : t ≤ 2147483647) (hn : n ≤ 2147483647) (hL : Takes n L) (m : Bool) (i : Nat) (h : B.drop i = tagBytes c t m ++ lenBytes n L) (hBl : B.length = i + (tagBytes c t m ++ lenBytes n L).length) :
    Hd B i = some (c, (t : Int), (n : Int), m, (B.length : Int)) := by
  unfold Hd
  unfold tagBytes at h hBl
  by_cases c1 : t < 31
  · rw [if_pos c1] at h hBl
    obtain ⟨h1, h2, h3⟩ := drop_cons (show B.drop i = HHead.first c t m :: lenBytes n L from h)
    have hv := first_val c t m hc0 hc (by omega) (by omega)
    have e1 : HHead.first c t m % 32 = t := by rw [hv]; cases m <;> simp <;> omega
    have e2 : HHead.first c t m / 64 = c := by rw [hv]; cases m <;> simp <;> omega
    have e3 : decide (HHead.first c t m / 32 % 2 = 1) = m := by rw [hv]; cases m <;> simp <;> omega
    have k := Len_reads B n L hL hn (i + 1) [] (by rw [h3, List.append_nil])
    rw [show ((i + 1 : Nat) : Int) = (i : Int) + 1 by omega] at k
    rw [if_pos (by omega), h1, e1, e2, e3, if_neg (by omega), k]
    simp only [Option.map_some, Option.some.injEq, Prod.mk.injEq, true_and]
    simp at hBl
    omega
  · rw [if_neg c1] at h hBl
    obtain ⟨h1, h2, h3⟩ := drop_cons (show B.drop i = HHead.first c 31 m :: (enc t ++ lenBytes n L) from h)
    have hv := first_val c 31 m hc0 hc (by omega) (by omega)
    have e1 : HHead.first c 31 m % 32 = 31 := by rw [hv]; cases m <;> simp <;> omega
    have e2 : HHead.first c 31 m / 64 = c := by rw [hv]; cases m <;> simp <;> omega
    have e3 : decide (HHead.first c 31 m / 32 % 2 = 1) = m := by rw [hv]; cases m <;> simp <;> omega
    have g := G_enc B t ht (i + 1) (lenBytes n L) h3
    rw [show ((i + 1 : Nat) : Int) = (i : Int) + 1 by omega] at g
    have hd2 : B.drop (i + 1 + (enc t).length) = lenBytes n L := by
      rw [← List.drop_drop, h3, List.drop_left]
    have k := Len_reads B n L hL hn (i + 1 + (enc t).length) [] (by rw [hd2, List.append_nil])
    rw [show ((i + 1 + (enc t).length : Nat) : Int) = (i : Int) + 1 + ((enc t).length : Int) by omega] at k
    rw [if_pos (by omega), h1, e1, e2, e3, if_pos rfl, g]
    dsimp only
    rw [if_neg (by omega), k]
    simp only [Option.map_some, Option.some.injEq, Prod.mk.injEq, true_and]
    simp at hBl
    omega

theorem hi_bytes : ∀ (f m : Nat), m < f → Bytes (hi m) := by
  intro f
  induction f with
  | zero => intro m h; omega
  | succ f ih =>
    intro m h
    by_cases h0 : m = 0
    · subst h0; rw [hi_zero]; intro x hx; cases hx
    · rw [hi_pos h0]
      intro x hx
      rcases List.mem_append.mp hx with h1 | h1
      · exact ih _ (by omega) x h1
      · simp at h1; subst h1; exact byte_wf (by omega) (by omega)
theorem enc_bytes (t : Nat) : Bytes (enc t) := by
  intro x hx
  rcases List.mem_append.mp hx with h1 | h1
  · exact hi_bytes _ _ (Nat.lt_succ_self _) x h1
  · simp at h1; subst h1; exact byte_wf (by omega) (by omega)
theorem be_bytes (n : Nat) : ∀ j, Bytes (be n j)
  | 0 => by intro x hx; cases hx
  | j + 1 => by
    intro x hx
    rcases List.mem_cons.mp hx with h1 | h1
    · subst h1; exact byte_wf (by omega) (by omega)
    · exact be_bytes n j x h1
theorem head_bytes (c : Int) (hc0 : 0 ≤ c) (hc : c ≤ 3) (t n L : Nat) (hL : Takes n L) (m : Bool) : Bytes (tagBytes c t m ++ lenBytes n L) := by
  have h4 := hL.four
  intro x hx
  rcases List.mem_append.mp hx with h1 | h1
  · unfold tagBytes at h1
    by_cases c1 : t < 31
    · rw [if_pos c1] at h1
      simp at h1; subst h1
      rw [first_val c t m hc0 hc (by omega) (by omega)]
      exact byte_wf (by cases m <;> simp <;> omega) (by cases m <;> simp <;> omega)
    · rw [if_neg c1] at h1
      rcases List.mem_cons.mp h1 with h2 | h2
      · subst h2
        rw [first_val c 31 m hc0 hc (by omega) (by omega)]
        exact byte_wf (by cases m <;> simp <;> omega) (by cases m <;> simp <;> omega)
      · exact enc_bytes t x h2
  · unfold lenBytes at h1
    by_cases c1 : n < 128
    · rw [if_pos c1] at h1
      simp at h1; subst h1; exact byte_wf (by omega) (by omega)
    · rw [if_neg c1] at h1
      rcases List.mem_cons.mp h1 with h2 | h2
      · subst h2; exact byte_wf (by omega) (by omega)
      · exact be_bytes n L x h2
theorem head_length (c : Int) (t n L : Nat) (ht : t ≤ 2147483647) (hL : Takes n L) (m : Bool) : (tagBytes c t m ++ lenBytes n L).length ≤ 20 := by
  have h4 := hL.four
  have he := enc_length t ht
  rw [List.length_append]
  unfold tagBytes lenBytes
  split <;> split <;> simp [be_length] <;> omega

theorem pure_ (l : List Int) (c t n : Int) (m : Bool) (hb : Bytes l) : laws_FnHeaderBack.f 300 l c t n m = some true := by
  have tr : ∀ a b d e, laws_FnHeaderBack.j0 300 l true a b d e = some true := fun a b d e => by rw [laws_FnHeaderBack.j0, if_pos rfl]
  unfold laws_FnHeaderBack.f
  by_cases g1 : (l.length : Int) > 2147483647
  · rw [if_pos g1]
  rw [if_neg g1]
  by_cases g2 : (l.length : Int) > 50
  · rw [if_pos g2, tr]
  rw [if_neg g2]
  by_cases h1 : c < 0
  · rw [if_pos h1, tr]
  rw [if_neg h1]
  by_cases h2 : c > 3
  · rw [if_pos h2, tr]
  rw [if_neg h2]
  by_cases h3 : t < 0
  · rw [if_pos h3, tr]
  rw [if_neg h3]
  by_cases h4 : t > 2147483647
  · rw [if_pos h4, tr]
  rw [if_neg h4]
  by_cases h5 : n < 0
  · rw [if_pos h5, tr]
  rw [if_neg h5]
  by_cases h6 : n > 2147483647
  · rw [decide_eq_true h6, tr]
  rw [decide_eq_false h6, laws_FnHeaderBack.j0, if_neg (by simp)]
  obtain ⟨t, rfl⟩ := Int.eq_ofNat_of_zero_le (show 0 ≤ t by omega)
  obtain ⟨n, rfl⟩ := Int.eq_ofNat_of_zero_le (show 0 ≤ n by omega)
  obtain ⟨L, hL⟩ := takes n (by omega)
  have e1 : impl_PutHeader.f 299 c t n m = some (tagBytes c t m ++ lenBytes n L) := by
    unfold impl_PutHeader.f asn1_ZZPutHeader.f
    rw [if_neg h1, if_neg h2, if_neg h3, if_neg h4, if_neg h5, if_neg h6, asn_f 299 (by omega) c (by omega) (by omega) t n L (by omega) hL m]
    rfl
  have hlen := head_length c t n L (by omega) hL m
  have ec : slices_Clone_byte_byte.f l = some l := by unfold slices_Clone_byte_byte.f; rw [if_pos (by omega)]
  rw [ec, e1]
  simp only [Option.bind_some]
  rw [if_pos (by omega)]
  have hbb : Bytes (l ++ (tagBytes c t m ++ lenBytes n L)) := by
    intro x hx
    rcases List.mem_append.mp hx with h | h
    · exact hb x h
    · exact head_bytes c (by omega) (by omega) t n L hL m x h
  have hll : (l ++ (tagBytes c t m ++ lenBytes n L)).length = l.length + (tagBytes c t m ++ lenBytes n L).length := List.length_append
  obtain ⟨c', t', n', m', o', ok, h, hs⟩ := read_tells _ hbb (by omega) (l.length : Int) (by omega) 299 (by omega)
  have e : Hd (l ++ (tagBytes c t m ++ lenBytes n L)) (l.length : Int) = some (c, (t : Int), (n : Int), m, ((l ++ (tagBytes c t m ++ lenBytes n L)).length : Int)) :=
    Hd_reads _ c (by omega) (by omega) t n L (by omega) (by omega) hL m l.length (by rw [List.drop_left]) hll
  rw [e] at hs
  obtain ⟨rfl, rfl, rfl, rfl, rfl⟩ := hs.2 _ _ _ _ _ rfl
  rw [show ok = true from hs.1] at h
  rw [h]
  simp
end Go.Proofs.Ytapnkngcnlomhaa.HBack
