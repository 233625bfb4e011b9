/- zzFits1 walked. -/
import Derived.Test.YtmiemfgcggkbnaaSoQ
import Derived.Test.YtmiemfgcggkbnaaSoR
namespace Go.Proofs.Ytmiemfgcggkbnaa.QS
set_option linter.unusedVariables false
set_option linter.unusedSimpArgs false
open Go.RowKit Go.Proofs.YtmiemfgcggkbnaaW.PrintWords Go.Proofs.YtmiemfgcggkbnaaW.PrintLast Go.Proofs.YtmiemfgcggkbnaaW.PrintMore
def fitE (e : El) : Bool := decide (e.l.length ≤ 2147483647)
set_option maxHeartbeats 4000000 in
set_option maxRecDepth 100000 in
theorem zf_len (A : Option Addr) (c : Nat) (es : List El) (w : World) (hl : 2147483647 < es.length) : Calls Try.prog 12 #[.slice A es.length c] w fun e w' => e = .returned (.bool false) ∧ Below w.heap.size w w' := by
  have t1 : decide ((es.length : Int) > 2147483647) = true := decide_eq_true (by omega)
  have t1' : decide ((2147483647 : Int) < (es.length : Int)) = true := decide_eq_true (by omega)
  have t1n : decide (2147483647 < es.length) = true := decide_eq_true (by omega)
  go_enter Try.func12, Try.ntmps12
  go_wp2
  go_ret
  exact ⟨rfl, Below.refl _ _⟩
set_option maxHeartbeats 4000000 in
set_option maxRecDepth 100000 in
theorem zf_yes (A : Option Addr) (c : Nat) (es : List El) (w : World) (hr : KV.C w A es.length es) (hl : es.length ≤ 2147483647) (h : es.all fitE = true) : Calls Try.prog 12 #[.slice A es.length c] w fun e w' => e = .returned (.bool true) ∧ Below w.heap.size w w' := by
  have HB0 := Aside0.mk (Below.refl w.heap.size w)
  have HR := Aside0.mk hr
  have HH := Aside0.mk h
  have hu22 := Try.underlying22
  have t1 : decide ((es.length : Int) > 2147483647) = false := decide_eq_false (by omega)
  have t1' : decide ((2147483647 : Int) < (es.length : Int)) = false := decide_eq_false (by omega)
  have t1n : decide (2147483647 < es.length) = false := decide_eq_false (by omega)
  clear hr h
  go_enter Try.func12, Try.ntmps12
  go_wp2
  go_loopw [10] (fun v10 wr => ∃ k : Nat, v10 = .int .i64 (k : Int) ∧ k ≤ es.length ∧ Aside0 ((es.take k).all fitE = true) ∧ w = wr) (fun v10 _ => es.length - (intOf v10).toNat)
  case atStart => exact ⟨0, rfl, Nat.zero_le _, ⟨rfl⟩, rfl⟩
  case round =>
    obtain ⟨k, rfl, hk, HA, rfl⟩ := hrel
    by_cases hlt : k < es.length
    · have tl : decide ((k : Int) < (es.length : Int)) = true := decide_eq_true (by omega)
      have tln : decide (k < es.length) = true := decide_eq_true hlt
      have tq : (k : Int) < (es.length : Int) := by omega
      have p7 : (0 ≤ (k : Int)) = True := eq_true (by omega)
      have q7 := eq_true tq
      have q8 := eq_true hlt
      obtain ⟨ae, hA, hx⟩ := at_KV HR.out k hlt
      subst hA
      have HTS := Aside0.mk (take_snoc es k nilEl hlt)
      obtain ⟨x, hX⟩ : ∃ x, x = es.getD k nilEl := ⟨_, rfl⟩
      rw [← hX] at hx HTS
      have HX := Aside0.mk hX
      clear hX
      cases hp : fitE x with
      | true =>
        have HP := Aside0.mk hp
        clear hp
        have hq := HP.out
        unfold fitE at hq
        simp only [decide_eq_true_eq] at hq
        have tg : decide ((x.l.length : Int) > 2147483647) = false := decide_eq_false (by omega)
        have tg2 : decide ((2147483647 : Int) < (x.l.length : Int)) = false := decide_eq_false (by omega)
        have tgn : decide (2147483647 < x.l.length) = false := decide_eq_false (by omega)
        clear hq
        go_wp2
        go_roundw
        case rel => exact ⟨k + 1, by go_num, by omega, ⟨by rw [HTS.out, List.all_append, HA.out]; simp [HP.out]⟩, by first | rfl | trivial⟩
        case measure => simp [intOf]; omega
      | false =>
        have HP := Aside0.mk hp
        clear hp
        exfalso
        have h9 := List.all_eq_true.1 HH.out x (by rw [HX.out]; exact getD_mem hlt)
        rw [HP.out] at h9
        cases h9
    · have hkeq : k = es.length := by omega
      have tl : decide ((k : Int) < (es.length : Int)) = false := decide_eq_false (by omega)
      have tln : decide (k < es.length) = false := decide_eq_false hlt
      have HA2 := Aside0.mk (show es.all fitE = true from by have h9 := HA.out; rw [hkeq, List.take_length] at h9; exact h9)
      clear hkeq HA
      go_wp2
      go_ret
      exact ⟨rfl, HB0.out⟩
set_option maxHeartbeats 4000000 in
set_option maxRecDepth 100000 in
theorem zf_no (A : Option Addr) (c : Nat) (es : List El) (w : World) (hr : KV.C w A es.length es) (hl : es.length ≤ 2147483647) (h : es.all fitE = false) : Calls Try.prog 12 #[.slice A es.length c] w fun e w' => e = .returned (.bool false) ∧ Below w.heap.size w w' := by
  have HB0 := Aside0.mk (Below.refl w.heap.size w)
  have HR := Aside0.mk hr
  have HH := Aside0.mk h
  have hu22 := Try.underlying22
  have t1 : decide ((es.length : Int) > 2147483647) = false := decide_eq_false (by omega)
  have t1' : decide ((2147483647 : Int) < (es.length : Int)) = false := decide_eq_false (by omega)
  have t1n : decide (2147483647 < es.length) = false := decide_eq_false (by omega)
  clear hr h
  go_enter Try.func12, Try.ntmps12
  go_wp2
  go_loopw [10] (fun v10 wr => ∃ k : Nat, v10 = .int .i64 (k : Int) ∧ k ≤ es.length ∧ Aside0 ((es.take k).all fitE = true) ∧ w = wr) (fun v10 _ => es.length - (intOf v10).toNat)
  case atStart => exact ⟨0, rfl, Nat.zero_le _, ⟨rfl⟩, rfl⟩
  case round =>
    obtain ⟨k, rfl, hk, HA, rfl⟩ := hrel
    by_cases hlt : k < es.length
    · have tl : decide ((k : Int) < (es.length : Int)) = true := decide_eq_true (by omega)
      have tln : decide (k < es.length) = true := decide_eq_true hlt
      have tq : (k : Int) < (es.length : Int) := by omega
      have p7 : (0 ≤ (k : Int)) = True := eq_true (by omega)
      have q7 := eq_true tq
      have q8 := eq_true hlt
      obtain ⟨ae, hA, hx⟩ := at_KV HR.out k hlt
      subst hA
      have HTS := Aside0.mk (take_snoc es k nilEl hlt)
      obtain ⟨x, hX⟩ : ∃ x, x = es.getD k nilEl := ⟨_, rfl⟩
      rw [← hX] at hx HTS
      have HX := Aside0.mk hX
      clear hX
      cases hp : fitE x with
      | true =>
        have HP := Aside0.mk hp
        clear hp
        have hq := HP.out
        unfold fitE at hq
        simp only [decide_eq_true_eq] at hq
        have tg : decide ((x.l.length : Int) > 2147483647) = false := decide_eq_false (by omega)
        have tg2 : decide ((2147483647 : Int) < (x.l.length : Int)) = false := decide_eq_false (by omega)
        have tgn : decide (2147483647 < x.l.length) = false := decide_eq_false (by omega)
        clear hq
        go_wp2
        go_roundw
        case rel => exact ⟨k + 1, by go_num, by omega, ⟨by rw [HTS.out, List.all_append, HA.out]; simp [HP.out]⟩, by first | rfl | trivial⟩
        case measure => simp [intOf]; omega
      | false =>
        have HP := Aside0.mk hp
        clear hp
        have hq := HP.out
        unfold fitE at hq
        simp only [decide_eq_false_iff_not] at hq
        have tg : decide ((x.l.length : Int) > 2147483647) = true := decide_eq_true (by omega)
        have tg2 : decide ((2147483647 : Int) < (x.l.length : Int)) = true := decide_eq_true (by omega)
        have tgn : decide (2147483647 < x.l.length) = true := decide_eq_true (by omega)
        clear hq
        go_wp2
        go_ret
        exact ⟨rfl, HB0.out⟩
    · have hkeq : k = es.length := by omega
      have tl : decide ((k : Int) < (es.length : Int)) = false := decide_eq_false (by omega)
      have tln : decide (k < es.length) = false := decide_eq_false hlt
      have HA2 := Aside0.mk (show es.all fitE = true from by have h9 := HA.out; rw [hkeq, List.take_length] at h9; exact h9)
      clear hkeq HA
      exfalso
      have h9 := HH.out
      rw [HA2.out] at h9
      cases h9
set_option maxHeartbeats 4000000 in
set_option maxRecDepth 100000 in
theorem law_zz (A : Option Addr) (c : Nat) (es : List El) (w : World) (hz : Calls Try.prog 12 #[.slice A es.length c] w fun e w' => e = .returned (.bool false) ∧ Below w.heap.size w w') : Calls Try.prog 3 #[.slice A es.length c] w fun e w' => e = .returned (.bool true) ∧ Below w.heap.size w w' := by
  have HZ := Aside0.mk hz
  clear hz
  go_enter Try.func3, Try.ntmps3
  go_wp2_with (go_at_call 12; (with_reducible refine HZ.out.mono ?_); rintro e w2 ⟨rfl, hb⟩; have HB := Aside0.mk hb; clear hb)
  go_ret
  exact ⟨rfl, HB.out⟩
set_option maxHeartbeats 4000000 in
set_option maxRecDepth 100000 in
theorem law_20 (A : Option Addr) (c : Nat) (es : List El) (w : World) (hz : Calls Try.prog 12 #[.slice A es.length c] w fun e w' => e = .returned (.bool true) ∧ Below w.heap.size w w') (hl : 20 < es.length) : Calls Try.prog 3 #[.slice A es.length c] w fun e w' => e = .returned (.bool true) ∧ Below w.heap.size w w' := by
  have HZ := Aside0.mk hz
  have t1 : decide ((es.length : Int) > 20) = true := decide_eq_true (by omega)
  have t1' : decide ((20 : Int) < (es.length : Int)) = true := decide_eq_true (by omega)
  have t1n : decide (20 < es.length) = true := decide_eq_true (by omega)
  clear hz
  go_enter Try.func3, Try.ntmps3
  go_wp2_with (go_at_call 12; (with_reducible refine HZ.out.mono ?_); rintro e w2 ⟨rfl, hb⟩; have HB := Aside0.mk hb; clear hb)
  go_ret
  exact ⟨rfl, HB.out⟩
end Go.Proofs.Ytmiemfgcggkbnaa.QS
