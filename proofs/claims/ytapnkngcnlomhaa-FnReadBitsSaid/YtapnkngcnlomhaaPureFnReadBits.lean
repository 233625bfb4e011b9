/- A bit string is a byte that tells how many bits of the last one are not its own, at most 7, none of no bytes, and these bits are 0: the law FnReadBits answers true for every byte string (from 101 bytes on it is true at once). This text: the plain statement over lists of numbers. -/
import Derived.Test.YtapnkngcnlomhaaQBx2
import Derived.Test.YtapnkngcnlomhaaMath
set_option linter.unusedSimpArgs false
set_option linter.unusedVariables false
namespace Go.Proofs.Ytapnkngcnlomhaa.Pure
open Go.RowKit Go.Proofs.Ytapnkngcnlomhaa.QB Go.Proofs.YtapnkngcnlomhaaW.PrintWords Go.Proofs.YtapnkngcnlomhaaW.PrintLast Go.Proofs.YtapnkngcnlomhaaW.PrintMore Go.Proofs.Ytapnkngcnlomhaa.Math

theorem readBits_tells (l : List Int) (hb : Bytes l) (hl : l.length ≤ 10000) :
    (isBits l → impl_ReadBits.f l = some (l.drop 1, 8 * ((l.length : Int) - 1) - rd l 0, true)) ∧ (¬ isBits l → impl_ReadBits.f l = some ([], 0, false)) := by
  have hr := rd_byte hb 0
  unfold impl_ReadBits.f
  rw [if_pos ⟨hl, hr⟩]
  exact ⟨fun h => if_pos h, fun h => if_neg h⟩

theorem six : impl_ReadBits.f [2, 64] = some ([64], 6, true) := by
  have hb2 : Bytes [2, 64] := by intro y hy; simp at hy; rcases hy with rfl | rfl <;> rfl
  have h := (readBits_tells [2, 64] hb2 (by simp)).1
  have e1 : bitsRest [2, 64] = 0 := by
    unfold bitsRest
    rw [show wrap64 ((([2, 64] : List Int).length : Int) - 1) = 1 by rw [wrap64_id (by simp) (by simp)]; rfl]
    decide +kernel
  have := h ⟨by simp, by decide, by simp, e1⟩
  rw [this]
  rfl

theorem zero_rest (l : List Int) (h0 : rd l 0 = 0) (h1 : l.length = 1) : bitsRest l = 0 := by
  unfold bitsRest
  rw [h1, wrap64_id (by omega) (by omega), show (((1 : Nat) : Int) - 1) = 0 by omega, h0]
  decide +kernel

theorem FnReadBits : laws_FnReadBits.Pure := by
  intro l hl hl2 hb
  refine ⟨5, ?_⟩
  have hr := rd_byte hb 0
  unfold laws_FnReadBits.f
  by_cases h1 : (l.length : Int) > 2147483647
  · rw [if_pos h1]
  rw [if_neg h1]
  by_cases h2 : (l.length : Int) > 100
  · rw [if_pos h2]
  rw [if_neg h2]
  obtain ⟨p1, p2⟩ := readBits_tells l hb (by omega)
  have er : Go.bits .and .u8 (rd l (wrap64 ((l.length : Int) - 1))) (((shl .u8 1 (rd l 0)) - 1) % 256) = bitsRest l := rfl
  have no : ¬ isBits l → laws_FnReadBits.j1 4 l false false = some true := by
    intro h
    rw [laws_FnReadBits.j1, if_neg (by simp), p2 h, six]
    simp
  have yes : isBits l → laws_FnReadBits.j1 4 l true false = some true := by
    intro h
    have hd : 0 < l.length := h.1
    rw [laws_FnReadBits.j1, if_neg (by simp), p1 h, six]
    simp only [Option.bind_some]
    simp only [BEq.rfl, if_true]
    rw [if_pos (show (1 : Int) ≤ (l.length : Int) by omega)]
    have eq : bytes_Equal.f (l.drop 1) (l.drop 1) = some true := by simp [bytes_Equal.f]
    rw [eq]
    simp only [Option.bind_some, if_true]
    rw [if_pos (by omega), wrap64_id (x := (l.length : Int) - 1) (by omega) (by omega), wrap64_id (x := rd l 0) (by omega) (by omega), wrap64_id (x := 8 * ((l.length : Int) - 1)) (by omega) (by omega), wrap64_id (by omega) (by omega), if_pos rfl]
  have long : 1 < l.length → rd l 0 ≤ 7 → laws_FnReadBits.j1 4 l true true = some true := by
    intro hg h7
    rw [laws_FnReadBits.j1, if_pos rfl, er, wrap64_id (x := (l.length : Int) - 1) (by omega) (by omega), if_pos (by omega), if_pos (by omega), if_pos (by omega), if_pos hr.1, six]
    by_cases hz : bitsRest l = 0
    · have h : isBits l := ⟨by omega, h7, fun h => by omega, hz⟩
      rw [p1 h]
      simp only [Option.bind_some]
      rw [if_pos (by simp [hz]), if_pos hz, if_pos (by omega)]
      have eq : bytes_Equal.f (l.drop 1) (l.drop 1) = some true := by simp [bytes_Equal.f]
      rw [eq]
      simp only [Option.bind_some, if_true]
      rw [wrap64_id (x := rd l 0) (by omega) (by omega), wrap64_id (x := 8 * ((l.length : Int) - 1)) (by omega) (by omega), wrap64_id (by omega) (by omega), if_pos rfl]
      rfl
    · have h : ¬ isBits l := fun h => hz h.2.2.2
      rw [p2 h]
      simp [hz]
  by_cases h3 : l.length = 0
  · rw [if_neg (by omega), laws_FnReadBits.j0, if_neg (by simp)]
    exact no (fun h => by have := h.1; omega)
  rw [if_pos (by omega), if_pos (by omega)]
  by_cases h7 : rd l 0 ≤ 7
  · rw [if_pos h7]
    by_cases hg : l.length = 1
    · rw [if_neg (by omega), laws_FnReadBits.j0]
      by_cases hp : rd l 0 = 0
      · rw [hp]
        simp only [BEq.rfl, if_true]
        rw [decide_eq_false (by omega)]
        exact yes ⟨by omega, h7, fun _ => hp, zero_rest l hp hg⟩
      · have e : (rd l 0 == 0) = false := by simpa using hp
        rw [e, if_neg (by simp)]
        exact no (fun h => hp (h.2.2.1 hg))
    · rw [if_pos (by omega), laws_FnReadBits.j0, if_pos rfl, decide_eq_true (by omega)]
      exact long (by omega) h7
  · rw [if_neg h7, laws_FnReadBits.j0, if_neg (by simp)]
    exact no (fun h => h7 h.2.1)

end Go.Proofs.Ytapnkngcnlomhaa.Pure
