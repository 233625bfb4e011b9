/- zzCompare: what it answers. -/
import Derived.Test.YtmiemfgcggkbnaaSoB
import Derived.Test.YtmiemfgcggkbnaaQSx3
namespace Go.Proofs.Ytmiemfgcggkbnaa.QS
set_option linter.unusedVariables false
set_option linter.unusedSimpArgs false
open Go.RowKit Go.Proofs.YtmiemfgcggkbnaaW.PrintWords Go.Proofs.YtmiemfgcggkbnaaW.PrintLast Go.Proofs.YtmiemfgcggkbnaaW.PrintMore
theorem zc_drop {l : List Int} {i : Nat} (h : i < l.length) : l.drop i = rd l (i : Int) :: l.drop (i + 1) := by
  rw [List.drop_eq_getElem_cons h]
  unfold rd
  rw [Int.toNat_natCast, List.getD_eq_getElem?_getD, List.getElem?_eq_getElem h]
  rfl
theorem zc_l0 (x y : List Int) (hx : x.length ≤ 9223372036854775807) : ∀ (d i k : Nat), i + d = x.length → i ≤ y.length → 2 * d + 1 < k → asn1_zzCompare.l0 k x y (i : Int) = some (cmpI (x.drop i) (y.drop i))
  | 0, i, k, h, hy, hk => by
    obtain ⟨k, rfl⟩ : ∃ m, k = m + 1 := ⟨k - 1, by omega⟩
    obtain ⟨k, rfl⟩ : ∃ m, k = m + 1 := ⟨k - 1, by omega⟩
    simp only [asn1_zzCompare.l0]
    rw [if_neg (by omega)]
    simp only [asn1_zzCompare.j1]
    rw [if_neg (by decide), show x.drop i = [] from List.drop_eq_nil_of_le (by omega)]
    by_cases h1 : i < y.length
    · rw [if_pos (by omega), zc_drop h1]
      rfl
    · rw [if_neg (by omega), if_neg (by omega), show y.drop i = [] from List.drop_eq_nil_of_le (by omega)]
      rfl
  | d + 1, i, k, h, hy, hk => by
    obtain ⟨k, rfl⟩ : ∃ m, k = m + 1 := ⟨k - 1, by omega⟩
    obtain ⟨k, rfl⟩ : ∃ m, k = m + 1 := ⟨k - 1, by omega⟩
    simp only [asn1_zzCompare.l0]
    rw [if_pos (by omega)]
    simp only [asn1_zzCompare.j1]
    rw [zc_drop (show i < x.length by omega)]
    by_cases h1 : i < y.length
    · rw [if_pos (decide_eq_true (by omega)), if_pos (by omega), if_pos (by omega), if_pos (by omega), zc_drop h1]
      unfold cmpI
      by_cases h2 : rd x (i : Int) = rd y (i : Int)
      · rw [if_pos h2, if_neg (by omega), if_neg (by omega), show wrap64 ((i : Int) + 1) = ((i + 1 : Nat) : Int) by unfold wrap64; omega, zc_l0 x y hx d (i + 1) k (by omega) (by omega) (by omega)]
      · rw [if_neg h2]
        by_cases h3 : rd x (i : Int) < rd y (i : Int)
        · rw [if_pos h3, if_pos h3]
        · rw [if_neg h3, if_neg h3, if_pos (by omega)]
    · rw [if_neg (by rw [decide_eq_true_eq]; omega), if_neg (by omega), if_pos (by omega), show y.drop i = [] from List.drop_eq_nil_of_le (by omega)]
      rfl
theorem cmp127 (x y : El) (w : World) (hx : Good w x) (hy : Good w y) : Calls Try.prog 127 #[x.v, y.v] w fun e w' => e = .returned (.int .i64 (cmpI x.l y.l)) ∧ ∃ q, w' = w.drewN q := by
  have hr := Kd.reads_of_C (enc := Value.int .u8) (d := (0 : Int)) (h1 := fun _ => rfl) hx.1
  have hf : asn1_zzCompare.f (2 * x.l.length + 2) x.l y.l = some (cmpI x.l y.l) := by
    have h9 := zc_l0 x.l y.l hr.2.1 x.l.length 0 (2 * x.l.length + 2) (by omega) (by omega) (by omega)
    exact h9
  exact (asn1_zzCompare.calls _ x.a x.c x.l y.a y.c y.l _ w hx.1 hx.2.1 hy.1 hy.2.1 hf).mono fun _ _ ⟨he, hd⟩ => ⟨he, hd.out⟩
end Go.Proofs.Ytmiemfgcggkbnaa.QS
