/- The order of byte strings. -/
import Derived.Lib.Bytealg
import Derived.Sort.Statements
namespace Go.Proofs.Ytmiemfgcggkbnaa.QS
set_option linter.unusedVariables false
set_option linter.unusedSimpArgs false
open Go.Sort
/-- Bytes compared: -1, 0 or 1. -/
def cmpI : List Int → List Int → Int
  | [], [] => 0
  | [], _ :: _ => -1
  | _ :: _, [] => 1
  | a :: as, b :: bs => if a < b then -1 else if b < a then 1 else cmpI as bs
theorem cmpI_self : ∀ a, cmpI a a = 0
  | [] => rfl
  | x :: r => by simp [cmpI, cmpI_self r]
theorem cmpI_eq : ∀ a b, cmpI a b = 0 → a = b
  | [], [], _ => rfl
  | [], _ :: _, h => by simp [cmpI] at h
  | _ :: _, [], h => by simp [cmpI] at h
  | a :: as, b :: bs, h => by
    unfold cmpI at h
    by_cases h1 : a < b
    · rw [if_pos h1] at h; cases h
    · rw [if_neg h1] at h
      by_cases h2 : b < a
      · rw [if_pos h2] at h; cases h
      · rw [if_neg h2] at h
        rw [show a = b by omega, cmpI_eq as bs h]
theorem cmpI_neg : ∀ a b, cmpI b a = - cmpI a b
  | [], [] => rfl
  | [], _ :: _ => by simp [cmpI]
  | _ :: _, [] => by simp [cmpI]
  | a :: as, b :: bs => by
    unfold cmpI
    by_cases h1 : a < b
    · rw [if_pos h1, if_neg (by omega), if_pos h1]; rfl
    · by_cases h2 : b < a
      · rw [if_pos h2, if_neg h1, if_pos h2]
      · rw [if_neg h2, if_neg h1, if_neg h1, if_neg h2]
        exact cmpI_neg as bs
theorem cmpI_vals : ∀ a b, cmpI a b = -1 ∨ cmpI a b = 0 ∨ cmpI a b = 1
  | [], [] => by simp [cmpI]
  | [], _ :: _ => by simp [cmpI]
  | _ :: _, [] => by simp [cmpI]
  | a :: as, b :: bs => by
    unfold cmpI
    by_cases h1 : a < b
    · simp [h1]
    · by_cases h2 : b < a
      · simp [h1, h2]
      · rw [if_neg h1, if_neg h2]
        exact cmpI_vals as bs
theorem cmpI_trans : ∀ a b c, cmpI a b < 0 → cmpI b c < 0 → cmpI a c < 0
  | [], [], _, h, _ => by simp [cmpI] at h
  | [], _ :: _, [], _, h => by simp [cmpI] at h
  | [], _ :: _, _ :: _, _, _ => by simp [cmpI]
  | _ :: _, [], _, h, _ => by simp [cmpI] at h
  | _ :: _, _ :: _, [], _, h => by simp [cmpI] at h
  | a :: as, b :: bs, c :: cs, h, h' => by
    unfold cmpI at *
    by_cases h1 : a < b
    · by_cases h2 : b < c
      · rw [if_pos (by omega)]; decide
      · rw [if_neg h2] at h'
        by_cases h3 : c < b
        · rw [if_pos h3] at h'; omega
        · rw [if_pos (by omega)]; decide
    · rw [if_neg h1] at h
      by_cases h2 : b < a
      · rw [if_pos h2] at h; omega
      · rw [if_neg h2] at h
        by_cases h3 : b < c
        · rw [if_pos (by omega)]; decide
        · rw [if_neg h3] at h'
          by_cases h4 : c < b
          · rw [if_pos h4] at h'; omega
          · rw [if_neg h4] at h'
            rw [if_neg (by omega), if_neg (by omega)]
            exact cmpI_trans as bs cs h h'
theorem cmpI_ntrans (a b c : List Int) (h : ¬ cmpI a b < 0) (h' : ¬ cmpI b c < 0) : ¬ cmpI a c < 0 := by
  intro h9
  rcases cmpI_vals b c with hv | hv | hv
  · omega
  · exact h (by rw [cmpI_eq b c hv]; exact h9)
  · exact h (cmpI_trans a c b h9 (by rw [cmpI_neg b c, hv]; decide))
/-- Ascending. -/
def Asc (ls : List (List Int)) : Prop := ls.Pairwise fun a b => ¬ cmpI b a < 0
/-- Two rows of the same members, each in ascending order, are the same. -/
theorem sorted_same {xs ys : List (List Int)} (hp : xs.Perm ys) (hx : xs.Pairwise fun a b => ¬ cmpI b a < 0) (hy : ys.Pairwise fun a b => ¬ cmpI b a < 0) : xs = ys := by
  refine hp.eq_of_pairwise (le := fun a b => ¬ cmpI b a < 0) (fun a b _ _ h1 h2 => ?_) hx hy
  apply cmpI_eq
  have := cmpI_neg a b
  rcases cmpI_vals a b with hv | hv | hv <;> omega
theorem cmpI_bytes : ∀ a b : List Int, (∀ x, x ∈ a → 0 ≤ x ∧ x ≤ 255) → (∀ x, x ∈ b → 0 ≤ x ∧ x ≤ 255) → Go.Lib.compareBytes (a.map fun n => UInt8.ofNat n.toNat) (b.map fun n => UInt8.ofNat n.toNat) = cmpI a b
  | [], [], _, _ => rfl
  | [], _ :: _, _, _ => rfl
  | _ :: _, [], _, _ => rfl
  | a :: as, b :: bs, ha, hb => by
    have ih := cmpI_bytes as bs (fun x hx => ha x (List.mem_cons_of_mem _ hx)) (fun x hx => hb x (List.mem_cons_of_mem _ hx))
    have h1 := ha a List.mem_cons_self
    have h2 := hb b List.mem_cons_self
    have e1 : (UInt8.ofNat a.toNat < UInt8.ofNat b.toNat) ↔ a < b := by
      rw [UInt8.lt_iff_toNat_lt, UInt8.toNat_ofNat', UInt8.toNat_ofNat']
      omega
    have e2 : (UInt8.ofNat b.toNat < UInt8.ofNat a.toNat) ↔ b < a := by
      rw [UInt8.lt_iff_toNat_lt, UInt8.toNat_ofNat', UInt8.toNat_ofNat']
      omega
    simp only [List.map_cons, Go.Lib.compareBytes, cmpI, e1, e2, ih]
end Go.Proofs.Ytmiemfgcggkbnaa.QS
