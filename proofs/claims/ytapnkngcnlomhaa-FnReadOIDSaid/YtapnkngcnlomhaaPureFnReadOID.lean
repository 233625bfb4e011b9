/- Bytes are an object identifier exactly if they are numbers in groups of seven bits, at least one, each as short as it can be, with at most 31 bits; the first one tells two: the law FnReadOID answers true for every byte string (from 201 bytes on it is true at once). This text: the plain statement over lists of numbers. -/
import Derived.Test.YtapnkngcnlomhaaQOx3
import Derived.Test.YtapnkngcnlomhaaORead
set_option linter.unusedSimpArgs false
set_option linter.unusedVariables false
namespace Go.Proofs.Ytapnkngcnlomhaa.Pure
open Go.RowKit Go.Proofs.Ytapnkngcnlomhaa.QO Go.Proofs.YtapnkngcnlomhaaW.PrintWords Go.Proofs.YtapnkngcnlomhaaW.PrintLast Go.Proofs.Ytapnkngcnlomhaa.Math Go.Proofs.Ytapnkngcnlomhaa.ORead

/-- The numbers from place i on; f: at most so many. -/
def Ns (b : List Int) : Nat → Int → Option (List Int)
  | 0, i => if i < (b.length : Int) then none else some []
  | f + 1, i => if i < (b.length : Int) then (match G b 5 i 0 with | none => none | some (v, n) => (Ns b f n).map (v :: ·)) else some []
/-- The first number tells two. -/
def two (v : Int) : List Int := if v < 80 then [wrap64 (Int.tdiv v 40), Int.tmod v 40] else [2, wrap64 (v - 80)]
/-- An object identifier's numbers. -/
def Oid (b : List Int) : Option (List Int) :=
  if b.length = 0 then none else match G b 5 0 0 with | none => none | some (v, n) => (Ns b b.length n).map (two v ++ ·)
theorem two_length (v : Int) : (two v).length = 2 := by unfold two; split <;> rfl

/-- What a reader told (its numbers, whether it is right) is the answer g. -/
def Is (g : Option (List Int)) (x : List Int) (ok : Bool) : Prop := ok = g.isSome ∧ ∀ y, g = some y → x = y

theorem spec_l0 (b : List Int) (hb : Bytes b) (hl : b.length ≤ 10000) : ∀ (f k : Nat) (out : List Int) (i : Int), 0 < out.length → out.length + f ≤ 20000 → 0 ≤ i → i ≤ b.length → b.length - i ≤ f → f + 30 ≤ k →
    ∃ x ok, spec_Identifier.l0 k b out i = some (x, ok) ∧ Is ((Ns b f i).map (out ++ ·)) x ok := by
  intro f
  induction f with
  | zero =>
    intro k out i ho ho2 hi hi2 hf hk
    obtain ⟨k, rfl⟩ : ∃ m, k = m + 1 := ⟨k - 1, by omega⟩
    rw [spec_Identifier.l0, if_neg (by omega), Ns, if_neg (by omega), decide_eq_true (by omega)]
    exact ⟨_, _, rfl, rfl, by simp⟩
  | succ f ih =>
    intro k out i ho ho2 hi hi2 hf hk
    obtain ⟨k, rfl⟩ : ∃ m, k = m + 1 := ⟨k - 1, by omega⟩
    rw [spec_Identifier.l0, Ns]
    by_cases c1 : i < (b.length : Int)
    · rw [if_pos c1, if_pos c1]
      obtain ⟨v, n, ok, h, ht⟩ := specBase_tells b hb hl i hi (by omega) k (by omega)
      rw [h]
      simp only [Option.bind_some]
      cases hg : G b 5 i 0 with
      | none =>
        have h1 := ht.1
        rw [hg] at h1
        rw [show ok = false from h1, if_neg (by simp)]
        exact ⟨_, _, rfl, rfl, by simp⟩
      | some p =>
        obtain ⟨v', n'⟩ := p
        have h1 := ht.1
        rw [hg] at h1
        obtain ⟨rfl, rfl⟩ := ht.2 v' n' hg
        have hgr := G_range b hb 5 i 0 hi (by omega) v n hg
        rw [show ok = true from h1, if_pos rfl, if_pos (by omega), if_pos (by omega)]
        obtain ⟨x, ok2, e, hs⟩ := ih k (out ++ [v]) n (by simp) (by simp; omega) (by omega) (by omega) (by omega) (by omega)
        refine ⟨x, ok2, e, ?_⟩
        have : ((match some (v, n) with | none => none | some (v, n) => Option.map (v :: ·) (Ns b f n)).map (out ++ ·)) = (Ns b f n).map ((out ++ [v]) ++ ·) := by
          dsimp only
          rw [Option.map_map]
          congr 1
          funext y
          simp
        rw [this]
        exact hs
    · rw [if_neg c1, if_neg c1, decide_eq_true (by omega)]
      exact ⟨_, _, rfl, rfl, by simp⟩

theorem spec_tells (b : List Int) (hb : Bytes b) (hl : b.length ≤ 10000) (k : Nat) (hk : b.length + 40 ≤ k) : ∃ x ok, spec_Identifier.f k b = some (x, ok) ∧ Is (Oid b) x ok := by
  obtain ⟨k, rfl⟩ : ∃ m, k = m + 1 := ⟨k - 1, by omega⟩
  unfold spec_Identifier.f Oid
  rw [spec_Identifier.l0]
  by_cases c0 : b.length = 0
  · rw [if_neg (by omega), if_pos c0]
    exact ⟨_, _, rfl, rfl, by simp⟩
  · rw [if_pos (by omega), if_neg c0]
    obtain ⟨v, n, ok, h, ht⟩ := specBase_tells b hb hl 0 (by omega) (by omega) k (by omega)
    rw [h]
    simp only [Option.bind_some]
    cases hg : G b 5 0 0 with
    | none =>
      have h1 := ht.1
      rw [hg] at h1
      rw [show ok = false from h1, if_neg (by simp)]
      exact ⟨_, _, rfl, rfl, by simp⟩
    | some p =>
      obtain ⟨v', n'⟩ := p
      have h1 := ht.1
      rw [hg] at h1
      obtain ⟨rfl, rfl⟩ := ht.2 v' n' hg
      have hgr := G_range b hb 5 0 0 (by omega) (by omega) v n hg
      rw [show ok = true from h1, if_pos rfl, if_neg (by simp)]
      have fin := spec_l0 b hb hl b.length k (two v) n (by rw [two_length]; omega) (by rw [two_length]; omega) (by omega) (by omega) (by omega) (by omega)
      dsimp only
      unfold two at fin ⊢
      by_cases c8 : v < 80
      · rw [if_pos c8] at fin ⊢
        rw [if_pos c8, if_pos (by simp)]
        exact fin
      · rw [if_neg c8] at fin ⊢
        rw [if_neg c8, if_pos (by simp)]
        exact fin

theorem take_set (s : List Int) (i : Nat) (v : Int) (h : i < s.length) : (s.set i v).take (i + 1) = s.take i ++ [v] := by
  rw [List.take_succ_eq_append_getElem (by simpa using h), List.take_set_of_le (Nat.le_refl i)]
  simp

theorem asn_l0 (b : List Int) (hb : Bytes b) (hl : b.length ≤ 10000) : ∀ (f k : Nat) (s : List Int) (o : Int) (i : Nat), s.length = b.length + 1 → 0 ≤ o → o ≤ b.length → (i : Int) ≤ o + 1 → b.length - o ≤ f → f + 30 ≤ k →
    ∃ x e, asn1_parseObjectIdentifier.l0 k b s none o i = some (x, e) ∧ Is ((Ns b f o).map (s.take i ++ ·)) x e.isNone := by
  intro f
  induction f with
  | zero =>
    intro k s o i hs ho ho2 hi hf hk
    obtain ⟨k, rfl⟩ : ∃ m, k = m + 1 := ⟨k - 1, by omega⟩
    rw [asn1_parseObjectIdentifier.l0, if_neg (by omega), if_pos (by omega), if_pos (by omega), Int.toNat_natCast, Ns, if_neg (by omega)]
    exact ⟨_, _, rfl, rfl, by simp⟩
  | succ f ih =>
    intro k s o i hs ho ho2 hi hf hk
    obtain ⟨k, rfl⟩ : ∃ m, k = m + 1 := ⟨k - 1, by omega⟩
    rw [asn1_parseObjectIdentifier.l0, Ns]
    by_cases c1 : o < (b.length : Int)
    · rw [if_pos c1, if_pos c1]
      obtain ⟨v, n, e, h, ht⟩ := parseBase_tells b hb hl o ho (by omega) k (by omega)
      rw [h]
      simp only [Option.bind_some]
      cases hg : G b 5 o 0 with
      | none =>
        have h1 := ht.1
        rw [hg] at h1
        cases e with
        | none => simp at h1
        | some e => simp only [Option.isNone_some, Bool.false_eq_true, if_false]; exact ⟨_, _, rfl, rfl, by simp⟩
      | some p =>
        obtain ⟨v', n'⟩ := p
        have h1 := ht.1
        rw [hg] at h1
        obtain ⟨rfl, rfl⟩ := ht.2 v' n' hg
        have hgr := G_range b hb 5 o 0 ho (by omega) v n hg
        cases e with
        | some e => simp at h1
        | none =>
          simp only [Option.isNone_none, if_true]
          rw [if_pos (by omega), if_pos (by omega), Int.toNat_natCast, wrap64_id (by omega) (by omega)]
          obtain ⟨x, e2, e3, hs2⟩ := ih k (s.set i v) n (i + 1) (by simpa using hs) (by omega) (by omega) (by omega) (by omega) (by omega)
          refine ⟨x, e2, e3, ?_⟩
          rw [take_set s i v (by omega)] at hs2
          have : (Option.map (v :: ·) (Ns b f n)).map (s.take i ++ ·) = (Ns b f n).map ((s.take i ++ [v]) ++ ·) := by
            rw [Option.map_map]
            congr 1
            funext y
            simp
          rw [this]
          exact hs2
    · rw [if_neg c1, if_neg c1, if_pos (by omega), if_pos (by omega), Int.toNat_natCast]
      exact ⟨_, _, rfl, rfl, by simp⟩

theorem parse_tells_oid (b : List Int) (hb : Bytes b) (hl : b.length ≤ 10000) (k : Nat) (hk : b.length + 40 ≤ k) : ∃ x e, asn1_parseObjectIdentifier.f k b = some (x, e) ∧ Is (Oid b) x e.isNone := by
  obtain ⟨k, rfl⟩ : ∃ m, k = m + 1 := ⟨k - 1, by omega⟩
  unfold asn1_parseObjectIdentifier.f Oid
  by_cases c0 : b.length = 0
  · rw [if_pos (by omega), if_pos c0]
    exact ⟨_, _, rfl, rfl, by simp⟩
  · rw [if_neg (by omega), if_neg c0, wrap64_id (x := (b.length : Int) + 1) (by omega) (by omega), if_pos (by omega), if_pos (by omega)]
    simp only [Option.bind_some]
    rw [show ((b.length : Int) + 1).toNat = b.length + 1 by omega]
    obtain ⟨v, n, e, h, ht⟩ := parseBase_tells b hb hl 0 (by omega) (by omega) (k + 1) (by omega)
    rw [h]
    simp only [Option.bind_some]
    cases hg : G b 5 0 0 with
    | none =>
      have h1 := ht.1
      rw [hg] at h1
      cases e with
      | none => simp at h1
      | some e => simp only [Option.isNone_some, Bool.false_eq_true, if_false]; exact ⟨_, _, rfl, rfl, by simp⟩
    | some p =>
      obtain ⟨v', n'⟩ := p
      have h1 := ht.1
      rw [hg] at h1
      obtain ⟨rfl, rfl⟩ := ht.2 v' n' hg
      have hgr := G_range b hb 5 0 0 (by omega) (by omega) v n hg
      cases e with
      | some e => simp at h1
      | none =>
        simp only [Option.isNone_none, if_true, List.length_replicate]
        have fin : ∀ x y : Int, two v = [x, y] → ∃ z e, asn1_parseObjectIdentifier.j0 (k + 1) b (((List.replicate (b.length + 1) 0).set (0 : Int).toNat x).set (1 : Int).toNat y) none n = some (z, e) ∧ Is ((Ns b b.length n).map (two v ++ ·)) z e.isNone := by
          intro x y hxy
          rw [asn1_parseObjectIdentifier.j0]
          have := asn_l0 b hb hl b.length k (((List.replicate (b.length + 1) 0).set (0 : Int).toNat x).set (1 : Int).toNat y) n 2 (by simp) (by omega) (by omega) (by omega) (by omega) (by omega)
          rw [show ((2 : Nat) : Int) = 2 from rfl] at this
          have ht2 : (((List.replicate (b.length + 1) (0 : Int)).set (0 : Int).toNat x).set (1 : Int).toNat y).take 2 = two v := by
            rw [hxy]
            obtain ⟨m, hm⟩ : ∃ m, b.length + 1 = m + 2 := ⟨b.length - 1, by omega⟩
            rw [hm, List.replicate_succ, List.replicate_succ]
            rfl
          rw [ht2] at this
          exact this
        by_cases c8 : v < 80
        · rw [if_pos c8, if_pos (by omega), if_pos (by omega)]
          exact fin _ _ (by unfold two; rw [if_pos c8])
        · rw [if_neg c8, if_pos (by omega), if_pos (by omega)]
          exact fin _ _ (by unfold two; rw [if_neg c8])

theorem Ns_length (b : List Int) (hb : Bytes b) : ∀ (f : Nat) (i : Int) (L : List Int), 0 ≤ i → i ≤ b.length → Ns b f i = some L → L.length ≤ b.length - i := by
  intro f
  induction f with
  | zero =>
    intro i L hi hi2 h
    rw [Ns] at h
    by_cases c : i < (b.length : Int)
    · rw [if_pos c] at h; cases h
    · rw [if_neg c] at h; obtain rfl := Option.some.inj h; simp; omega
  | succ f ih =>
    intro i L hi hi2 h
    rw [Ns] at h
    by_cases c : i < (b.length : Int)
    · rw [if_pos c] at h
      cases hg : G b 5 i 0 with
      | none => rw [hg] at h; cases h
      | some p =>
        obtain ⟨v, n⟩ := p
        rw [hg] at h
        have hgr := G_range b hb 5 i 0 hi (by omega) v n hg
        cases hn : Ns b f n with
        | none => simp [hn] at h
        | some M =>
          simp [hn] at h
          subst h
          have := ih n M (by omega) (by omega) hn
          simp; omega
    · rw [if_neg c] at h; obtain rfl := Option.some.inj h; simp; omega
theorem Oid_length (b : List Int) (hb : Bytes b) (L : List Int) (h : Oid b = some L) : L.length ≤ b.length + 2 := by
  unfold Oid at h
  by_cases c0 : b.length = 0
  · rw [if_pos c0] at h; cases h
  · rw [if_neg c0] at h
    cases hg : G b 5 0 0 with
    | none => rw [hg] at h; cases h
    | some p =>
      obtain ⟨v, n⟩ := p
      rw [hg] at h
      have hgr := G_range b hb 5 0 0 (by omega) (by omega) v n hg
      cases hn : Ns b b.length n with
      | none => simp [hn] at h
      | some M =>
        simp [hn] at h
        subst h
        have := Ns_length b hb _ n M (by omega) (by omega) hn
        simp [two_length]; omega

theorem readOID_tells (b : List Int) (hb : Bytes b) (hl : b.length ≤ 10000) (k : Nat) (hk : b.length + 40 ≤ k) : ∃ x ok, impl_ReadOID.f k b = some (x, ok) ∧ Is (Oid b) x ok := by
  obtain ⟨x, e, h, hs⟩ := parse_tells_oid b hb hl k hk
  unfold impl_ReadOID.f
  rw [short_tells b hl]
  simp only [Option.bind_some, if_true]
  rw [copied_tells b hl]
  simp only [Option.bind_some, asn1_ZZOID.f, h]
  cases e with
  | none =>
    simp only [Option.isNone_none, if_true]
    have h1 := hs.1
    obtain ⟨L, hL⟩ := Option.isSome_iff_exists.mp h1.symm
    have e := hs.2 L hL
    have := Oid_length b hb L hL
    rw [e]
    rw [if_pos (by simp; omega)]
    exact ⟨_, _, rfl, h1, fun y hy => by rw [hL] at hy; simpa using hy⟩
  | some e =>
    simp only [Option.isNone_some, Bool.false_eq_true, if_false]
    exact ⟨_, _, rfl, hs.1, fun y hy => by have := hs.1; rw [hy] at this; simp at this⟩

theorem equal_self (l : List Int) (hl : l.length ≤ 20000) : ∀ (d k : Nat) (i : Nat), i + d = l.length → d + 1 ≤ k → slices_Equal_int_int.l0 k l l l.length i = some true := by
  intro d
  induction d with
  | zero =>
    intro k i h hk
    obtain ⟨k, rfl⟩ : ∃ m, k = m + 1 := ⟨k - 1, by omega⟩
    rw [slices_Equal_int_int.l0, if_neg (by omega)]
  | succ d ih =>
    intro k i h hk
    obtain ⟨k, rfl⟩ : ∃ m, k = m + 1 := ⟨k - 1, by omega⟩
    rw [slices_Equal_int_int.l0, if_pos (by omega), if_pos (by omega), if_pos (by omega), if_pos (by omega), if_pos rfl, wrap64_id (by omega) (by omega)]
    exact ih k (i + 1) (by omega) (by omega)
theorem equal_f (l : List Int) (hl : l.length ≤ 20000) (k : Nat) (hk : l.length + 1 ≤ k) : slices_Equal_int_int.f k l l = some true := by
  unfold slices_Equal_int_int.f
  rw [if_pos rfl]
  exact equal_self l hl l.length k 0 (by omega) (by omega)

theorem three (k : Nat) (hk : 50 ≤ k) : ∃ x, impl_ReadOID.f k [42, 3] = some (x, true) ∧ x.length = 3 := by
  have hb2 : Bytes [42, 3] := by intro y hy; simp at hy; rcases hy with rfl | rfl <;> rfl
  obtain ⟨x, ok, h, hs⟩ := readOID_tells [42, 3] hb2 (by simp) k (by simp; omega)
  have e : Oid [42, 3] = some (two 42 ++ [3]) := by
    have g1 : G [42, 3] 5 0 0 = some (42, 1) := by decide
    have g2 : G [42, 3] 5 1 0 = some (3, 2) := by decide
    unfold Oid
    rw [if_neg (by simp), g1]
    simp [Ns, g2]
  rw [e] at hs
  have hx := hs.2 _ rfl
  rw [show ok = true from hs.1] at h
  exact ⟨x, h, by rw [hx]; simp [two_length]⟩

theorem FnReadOID : laws_FnReadOID.Pure := by
  intro l hl hl2 hb
  refine ⟨400, ?_⟩
  unfold laws_FnReadOID.f
  by_cases h1 : (l.length : Int) > 2147483647
  · rw [if_pos h1]
  rw [if_neg h1]
  by_cases h2 : (l.length : Int) > 200
  · rw [if_pos h2]
  rw [if_neg h2]
  obtain ⟨x, ok, e1, s1⟩ := spec_tells l hb (by omega) 400 (by omega)
  obtain ⟨x', ok', e2, s2⟩ := readOID_tells l hb (by omega) 400 (by omega)
  obtain ⟨y, e3, l3⟩ := three 400 (by omega)
  rw [e1, e2, e3]
  simp only [Option.bind_some]
  have ho : ok' = ok := s2.1.trans s1.1.symm
  rw [ho]
  cases hg : Oid l with
  | none =>
    have o1 : ok = false := by rw [s1.1, hg]; rfl
    simp [o1, l3]
  | some L =>
    have o1 : ok = true := by rw [s1.1, hg]; rfl
    have hL := Oid_length l hb L hg
    rw [s1.2 L hg, s2.2 L hg, equal_f L (by omega) 400 (by omega)]
    simp [o1, l3]

end Go.Proofs.Ytapnkngcnlomhaa.Pure
