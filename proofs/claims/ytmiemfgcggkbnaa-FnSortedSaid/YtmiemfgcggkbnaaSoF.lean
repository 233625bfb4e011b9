/- setEncoder's length. -/
import Derived.Test.YtmiemfgcggkbnaaSoE
namespace Go.Proofs.Ytmiemfgcggkbnaa.QS
set_option linter.unusedVariables false
set_option linter.unusedSimpArgs false
open Go.RowKit Go.Proofs.YtmiemfgcggkbnaaW.PrintWords Go.Proofs.YtmiemfgcggkbnaaW.PrintLast Go.Proofs.YtmiemfgcggkbnaaW.PrintMore
open Go.BigFrame
/-- Rows of encoders, each a byte slice. -/
def El.i (e : El) : Value := .iface 114 e.v
theorem El.onei (e : El) : e.i.oneCell' = true := rfl
def KI : Kd El := Kd.scalar El.i El.onei
def nilEl : El := ⟨none, 0, []⟩
def tot (es : List El) : Nat := (es.map fun e => e.l.length).sum
theorem tot_snoc (es : List El) (e : El) : tot (es ++ [e]) = tot es + e.l.length := by simp [tot]
theorem take_snoc {α : Type} (es : List α) (k : Nat) (d : α) (h : k < es.length) : es.take (k + 1) = es.take k ++ [es.getD k d] := by
  rw [List.take_add_one, List.getElem?_eq_getElem h, List.getD_eq_getElem?_getD, List.getElem?_eq_getElem h]
  rfl
theorem tot_app (a b : List El) : tot (a ++ b) = tot a + tot b := by simp [tot]
theorem tot_take (es : List El) (k : Nat) : tot (es.take k) ≤ tot es := by
  have h := tot_app (es.take k) (es.drop k)
  rw [List.take_append_drop] at h
  omega
theorem be_Len' (x : El) (w : World) : Calls Try.prog 129 #[.slice x.a x.l.length x.c] w fun e w' => e = .returned (.int .i64 (x.l.length : Int)) ∧ w = w' := be_Len x w
theorem at_KI {w : World} {A : Option Addr} {n : Nat} {xs : List El} (h : KI.C w A n xs) (k : Nat) (hk : k < n) : ∃ ad, A = some ad ∧ w.cell? (ad.add k) = some (.iface 114 (.slice (xs.getD k nilEl).a (xs.getD k nilEl).l.length (xs.getD k nilEl).c)) := by
  have hr := Kd.reads_of_C (enc := El.i) (d := nilEl) (h1 := El.onei) h
  obtain ⟨ad, hA, hc⟩ := hr.2.2 (by omega)
  exact ⟨ad, hA, hc k hk⟩
theorem at_KV {w : World} {A : Option Addr} {n : Nat} {xs : List El} (h : KV.C w A n xs) (k : Nat) (hk : k < n) : ∃ ad, A = some ad ∧ w.cell? (ad.add k) = some (.slice (xs.getD k nilEl).a (xs.getD k nilEl).l.length (xs.getD k nilEl).c) := by
  have hr := Kd.reads_of_C (enc := El.v) (d := nilEl) (h1 := El.one) h
  obtain ⟨ad, hA, hc⟩ := hr.2.2 (by omega)
  exact ⟨ad, hA, hc k hk⟩
theorem getD_mem {es : List El} {k : Nat} (h : k < es.length) : es.getD k nilEl ∈ es := by
  rw [List.getD_eq_getElem?_getD, List.getElem?_eq_getElem h]
  exact List.getElem_mem h
set_option maxHeartbeats 4000000 in
set_option maxRecDepth 100000 in
theorem se_Len (A : Option Addr) (c : Nat) (es : List El) (w : World) (hr : KI.C w A es.length es) (hc : es.length ≤ c) (ht : tot es ≤ 1000000) : Calls Try.prog 126 #[.slice A es.length c] w fun e w' => e = .returned (.int .i64 (tot es : Int)) ∧ w = w' := by
  have HR := Aside0.mk hr
  have HT := Aside0.mk ht
  have hu22 := Try.underlying113
  have hlen : es.length ≤ 9223372036854775807 := (Kd.reads_of_C (enc := El.i) (d := nilEl) (h1 := El.onei) hr).2.1
  clear hr ht hc
  go_enter Try.func126, Try.ntmps126
  go_wp2
  go_loopw [3, 8] (fun v3 v8 wr => ∃ k : Nat, v3 = .int .i64 (tot (es.take k) : Int) ∧ v8 = .int .i64 (k : Int) ∧ k ≤ es.length ∧ w = wr) (fun _ v8 _ => es.length - (intOf v8).toNat)
  case atStart => exact ⟨0, rfl, rfl, Nat.zero_le _, rfl⟩
  case round =>
    obtain ⟨k, rfl, rfl, hk, rfl⟩ := hrel
    by_cases hlt : k < es.length
    · have tl : decide ((k : Int) < (es.length : Int)) = true := decide_eq_true (by omega)
      have tln : decide (k < es.length) = true := decide_eq_true hlt
      have tq : (k : Int) < (es.length : Int) := by omega
      have p7 : (0 ≤ (k : Int)) = True := eq_true (by omega)
      have q7 := eq_true tq
      have q8 := eq_true hlt
      obtain ⟨ad, hA, hx⟩ := at_KI HR.out k hlt
      subst hA
      have HS := Aside0.mk (take_snoc es k nilEl hlt)
      obtain ⟨x, hX⟩ : ∃ x, x = es.getD k nilEl := ⟨_, rfl⟩
      rw [← hX] at hx HS
      have HV := Aside0.mk (show tot (es.take k) + x.l.length = tot (es.take (k + 1)) from by rw [HS.out, tot_snoc])
      have HW := Aside0.mk (Nat.le_trans (tot_take es (k + 1)) HT.out)
      clear hX
      have hm := fun (w : World) => (show (Go.method 270 114 (.slice x.a x.l.length x.c) "Len").run Try.prog w = .ok (129, .slice x.a x.l.length x.c) w from by kernel_rfl)
      obtain ⟨s0, hs0⟩ : ∃ s0, s0 = tot (es.take k) := ⟨_, rfl⟩
      rw [← hs0] at HV ⊢
      clear hs0
      go_wp2_with (go_at_call 129; (with_reducible refine (be_Len' x _).mono ?_); rintro e w2 ⟨rfl, rfl⟩)
      go_roundw
      case rel => exact ⟨k + 1, by have h1 := HV.out; have h2 := HW.out; congr 1; rw [← h1] at h2 ⊢; unfold wrap64; omega, by go_num, by omega, by first | rfl | trivial⟩
      case measure => simp [intOf]; omega
    · have hkeq : k = es.length := by omega
      have tl : decide ((k : Int) < (es.length : Int)) = false := decide_eq_false (by omega)
      have tln : decide (k < es.length) = false := decide_eq_false hlt
      have HE := Aside0.mk (show tot (es.take k) = tot es from by rw [hkeq, List.take_length])
      clear hkeq
      go_wp2
      go_ret
      rw [HE.out]
      exact ⟨rfl, rfl⟩
end Go.Proofs.Ytmiemfgcggkbnaa.QS
