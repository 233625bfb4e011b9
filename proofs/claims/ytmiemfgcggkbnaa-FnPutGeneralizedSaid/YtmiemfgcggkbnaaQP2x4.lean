-- Written by a program of this work (wip/patch_print.py) for this claim.
import Derived.Test.YtmiemfgcggkbnaaQP2x0
import Derived.Test.YtmiemfgcggkbnaaQP2x2
import Derived.Test.YtmiemfgcggkbnaaQP2x3
namespace Go.Proofs.Ytmiemfgcggkbnaa.QP2
open Go.RowKit Go.Proofs.YtmiemfgcggkbnaaW.PrintWords Go.Proofs.YtmiemfgcggkbnaaW.PrintLast Go.Proofs.YtmiemfgcggkbnaaW.PrintMore
attribute [local go_sem] max2_int min2_int max_two min_two max_three min_three max_four min_four   -- for this text's walks alone
set_option linter.unusedVariables false
set_option linter.unusedSimpArgs false

section
open Go.BigFrame
set_option linter.unusedSimpArgs false
/-- The part of a second after k of its nine places, where the figures end at place c. -/
def frV (s : ByteArray) (c : Nat) : Nat → Int
  | 0 => 0
  | k + 1 => if k + 1 < c then frV s c k * 10 + (bt s ((k + 1 : Nat) : Int) - 48) else frV s c k * 10
theorem frV_dig {s : ByteArray} {c k : Nat} (h : k + 1 < c) : frV s c (k + 1) = frV s c k * 10 + (bt s ((k + 1 : Nat) : Int) - 48) := by
  simp only [frV]
  rw [if_pos h]
theorem frV_pad {s : ByteArray} {c k : Nat} (h : c ≤ k + 1) : frV s c (k + 1) = frV s c k * 10 := by
  simp only [frV]
  rw [if_neg (by omega)]
theorem frV_pow {s : ByteArray} {c : Nat} (h : ∀ j : Nat, 1 ≤ j → j < c → 48 ≤ bt s (j : Int) ∧ bt s (j : Int) ≤ 57) : ∀ k, 0 ≤ frV s c k ∧ frV s c k ≤ 10 ^ k - 1
  | 0 => by simp [frV]
  | k + 1 => by
    have ih := frV_pow h k
    rw [Int.pow_succ]
    rcases Nat.lt_or_ge (k + 1) c with hk | hk
    · have := h (k + 1) (by omega) hk
      rw [frV_dig hk]
      omega
    · rw [frV_pad hk]
      omega
theorem frV_range {s : ByteArray} {c : Nat} (h : ∀ j : Nat, 1 ≤ j → j < c → 48 ≤ bt s (j : Int) ∧ bt s (j : Int) ≤ 57) (k : Nat) (hk : k ≤ 9) : 0 ≤ frV s c k ∧ frV s c k ≤ 1000000000 := by
  have h1 := frV_pow h k
  have h2 : (10 : Int) ^ k ≤ 1000000000 := by
    rcases (by omega : k = 0 ∨ k = 1 ∨ k = 2 ∨ k = 3 ∨ k = 4 ∨ k = 5 ∨ k = 6 ∨ k = 7 ∨ k = 8 ∨ k = 9) with rfl | rfl | rfl | rfl | rfl | rfl | rfl | rfl | rfl | rfl <;> decide
  omega
set_option maxHeartbeats 8000000 in
set_option maxRecDepth 100000 in
theorem Gen_d1 (A0 : Option Addr) (c0 : Nat) (l : List Int) (S : ByteArray) (Y mo d h mi n a : Int) (c : Nat) (R4 R5 R6 : ByteArray) (w : World) (hr0 : Kd.C (Kd.int .u8) w A0 l.length l) (hS : S = strOfNums l) (x1 : dg4 S = false) :
    Calls Try.prog 85 #[.slice A0 l.length c0] w (PBad w) := by
  have X1' := Aside0.mk x1
  have HR0 := Aside0.mk hr0
  have HS := Aside0.mk hS
  have HB0 := Aside0.mk (Below.refl w.heap.size w)
  clear hr0 hS x1
  go_enter Try.func85, Try.ntmps85
  go_wp2_with (first
    | ((with_reducible refine gate_dst (N := 2) rfl ?_); refine box_event ?hg (N := 2) ?hd (cs := #[.int .i64 0, .int .i64 0, .int .i64 0, .int .i64 0, .int .i64 0, .int .i64 0, .int .i64 0, .int .i64 0]) (t := 87) ?hr ?_; (case hd => rfl); (case hg => rfl); (case hr => first | (go_simp; done) | (go_simp; rfl)); intro g2 hg w1 hbox hb; have BR1 := Aside0.mk hbox; have HB1 := Aside0.mk (below_step HB0.out hb); have GR := Aside0.mk (show w.heap.size ≤ g2 by rw [hg]; exact Nat.le_refl _); clear hbox hb hg)
    | (go_at_call 97; (with_reducible refine (errors_New_any _ _).mono ?_); rintro e w2 ⟨T, x, rfl, hb⟩; have BR2 := Aside0.mk (blk_below BR1.out hb); have HB2 := Aside0.mk (below_step HB1.out hb); have hcv := Kd.C_string (P := Try.prog) (A := A0) (c := c0) Try.underlying25 Try.underlying5 Try.underlying9 (Kd.C_below HR0.out HB2.out); rw [← HS.out] at hcv; clear hb)
    | (go_at_call 98; (with_reducible refine (dig4_no S _ X1'.out).mono ?_); rintro e w3 ⟨rfl, ⟨n1, rfl⟩⟩; clear hcv; have cr0 := (blk_cell BR2.out 0).trans (show _ = some (.int .i64 0) from rfl); have crf0 := blk_frozen BR2.out 0; have cr1 := (blk_cell BR2.out 1).trans (show _ = some (.int .i64 0) from rfl); have crf1 := blk_frozen BR2.out 1; have cr2 := (blk_cell BR2.out 2).trans (show _ = some (.int .i64 0) from rfl); have crf2 := blk_frozen BR2.out 2; have cr3 := (blk_cell BR2.out 3).trans (show _ = some (.int .i64 0) from rfl); have crf3 := blk_frozen BR2.out 3; have cr4 := (blk_cell BR2.out 4).trans (show _ = some (.int .i64 0) from rfl); have crf4 := blk_frozen BR2.out 4; have cr5 := (blk_cell BR2.out 5).trans (show _ = some (.int .i64 0) from rfl); have crf5 := blk_frozen BR2.out 5; have cr6 := (blk_cell BR2.out 6).trans (show _ = some (.int .i64 0) from rfl); have crf6 := blk_frozen BR2.out 6; have cr7 := (blk_cell BR2.out 7).trans (show _ = some (.int .i64 0) from rfl); have crf7 := blk_frozen BR2.out 7)
    | ((with_reducible refine gate_store (t := 87) (p := 2) rfl ?_); refine store_event (t := 87) (p := 2) (v := ?vo2) (w1 := (put8 w2 g2 (.int .i64 0) (.int .i64 0) (.int .i64 0) (.int .i64 0) (.int .i64 0) (.int .i64 0) (.int .i64 0) (.int .i64 0)).drewN n1) ?hg ?ho ?hn ?hr ?_; (case ho => rfl); (case hg => rfl); (case hn => rfl); (case hr => first | (go_simp; done) | (go_simp; rfl)); intro w9 hw; have BX := Aside0.mk (show w9.heap[g2]? = some (.cells #[.int .i64 0, .int .i64 0, .int .i64 0, .int .i64 0, .int .i64 0, .int .i64 0, .int .i64 0, .int .i64 0] 87 (0, 0)) from by rw [hw]; exact blk_drewN (put8_blk BR2.out (.int .i64 0) (.int .i64 0) (.int .i64 0) (.int .i64 0) (.int .i64 0) (.int .i64 0) (.int .i64 0) (.int .i64 0)) _); have HX := Aside0.mk (show Below w.heap.size w w9 from by rw [hw]; exact pw_below_drewN (HB2.out.grown (put8_grown w2 g2 (.int .i64 0) (.int .i64 0) (.int .i64 0) (.int .i64 0) (.int .i64 0) (.int .i64 0) (.int .i64 0) (.int .i64 0)) (below_size HB2.out) (fun q hq => by cases hq; exact GR.out)) _); clear hw))
  refine bodyPost_ret (results_ct rfl _ _ g2 87 #[.int .i64 0, .int .i64 0, .int .i64 0, .int .i64 0, .int .i64 0, .int .i64 0, .int .i64 0, .int .i64 0] (0, 0) _ rfl BX.out Try.underlying87 rfl (by kernel_rfl)) rfl ?_
  exact ⟨T, x, rfl, HX.out⟩
set_option maxHeartbeats 8000000 in
set_option maxRecDepth 100000 in
theorem Gen_dd (A0 : Option Addr) (c0 : Nat) (l : List Int) (S : ByteArray) (Y mo d h mi n a : Int) (c : Nat) (R4 R5 R6 : ByteArray) (w : World) (hr0 : Kd.C (Kd.int .u8) w A0 l.length l) (hS : S = strOfNums l) (x1 : dg4 S = true) (ev : Y = dv4 S) (x2 : (dg2 (dr4 S) && dg2 (dr2 (dr4 S)) && dg2 (dr2 (dr2 (dr4 S))) && dg2 (dr2 (dr2 (dr2 (dr4 S))))) = false) :
    Calls Try.prog 85 #[.slice A0 l.length c0] w (PBad w) := by
  have bY := dv4_range x1
  rw [← ev] at bY
  have X1' := Aside0.mk x1
  have EV' := Aside0.mk ev
  have X2' := Aside0.mk x2
  have HR0 := Aside0.mk hr0
  have HS := Aside0.mk hS
  have HB0 := Aside0.mk (Below.refl w.heap.size w)
  clear hr0 hS x1 ev x2
  go_enter Try.func85, Try.ntmps85
  go_wp2_with (first
    | ((with_reducible refine gate_dst (N := 2) rfl ?_); refine box_event ?hg (N := 2) ?hd (cs := #[.int .i64 0, .int .i64 0, .int .i64 0, .int .i64 0, .int .i64 0, .int .i64 0, .int .i64 0, .int .i64 0]) (t := 87) ?hr ?_; (case hd => rfl); (case hg => rfl); (case hr => first | (go_simp; done) | (go_simp; rfl)); intro g2 hg w1 hbox hb; have BR1 := Aside0.mk hbox; have HB1 := Aside0.mk (below_step HB0.out hb); have GR := Aside0.mk (show w.heap.size ≤ g2 by rw [hg]; exact Nat.le_refl _); clear hbox hb hg)
    | (go_at_call 97; (with_reducible refine (errors_New_any _ _).mono ?_); rintro e w2 ⟨T, x, rfl, hb⟩; have BR2 := Aside0.mk (blk_below BR1.out hb); have HB2 := Aside0.mk (below_step HB1.out hb); have hcv := Kd.C_string (P := Try.prog) (A := A0) (c := c0) Try.underlying25 Try.underlying5 Try.underlying9 (Kd.C_below HR0.out HB2.out); rw [← HS.out] at hcv; clear hb)
    | (go_at_call 98; (with_reducible refine (dig4_yes S _ X1'.out).mono ?_); rw [← EV'.out]; rintro e w3 ⟨rfl, ⟨n1, rfl⟩⟩; clear hcv)
    | (go_at_call 99; (with_reducible refine (zzDate_no_any Y (dr4 S) _ X2'.out).mono ?_); rintro e w3 ⟨q0, q1, q2, q3, q4, q5, q6, q7, qr, rfl, hb⟩; have BR3 := Aside0.mk (blk_below (blk_drewN BR2.out n1) hb); have HB3 := Aside0.mk (below_step (pw_below_drewN HB2.out n1) hb); clear hb)
    | ((with_reducible refine gate_dst (N := 8) rfl ?_); refine box_event ?hg (N := 8) ?hd (cs := #[.int .i64 0, .int .i64 0, .int .i64 0, .int .i64 0, .int .i64 0, .int .i64 0, .int .i64 0, .int .i64 0]) (t := 87) ?hr ?_; (case hd => rfl); (case hg => rfl); (case hr => first | (go_simp; done) | (go_simp; rfl)); intro g8 hg w4 hbox hb; have BR4 := Aside0.mk (blk_below BR3.out hb); have HB4 := Aside0.mk (below_step HB3.out hb); have BT4 := Aside0.mk hbox; have GT := Aside0.mk (show w.heap.size ≤ g8 by rw [hg]; exact below_size HB3.out); have NE := Aside0.mk (show g2 ≠ g8 by rw [hg]; exact Nat.ne_of_lt (blk_lt BR3.out)); have ct0 := (blk_cell BT4.out 0).trans (show _ = some (.int .i64 0) from rfl); have ctf0 := blk_frozen BT4.out 0; have ct1 := (blk_cell BT4.out 1).trans (show _ = some (.int .i64 0) from rfl); have ctf1 := blk_frozen BT4.out 1; have ct2 := (blk_cell BT4.out 2).trans (show _ = some (.int .i64 0) from rfl); have ctf2 := blk_frozen BT4.out 2; have ct3 := (blk_cell BT4.out 3).trans (show _ = some (.int .i64 0) from rfl); have ctf3 := blk_frozen BT4.out 3; have ct4 := (blk_cell BT4.out 4).trans (show _ = some (.int .i64 0) from rfl); have ctf4 := blk_frozen BT4.out 4; have ct5 := (blk_cell BT4.out 5).trans (show _ = some (.int .i64 0) from rfl); have ctf5 := blk_frozen BT4.out 5; have ct6 := (blk_cell BT4.out 6).trans (show _ = some (.int .i64 0) from rfl); have ctf6 := blk_frozen BT4.out 6; have ct7 := (blk_cell BT4.out 7).trans (show _ = some (.int .i64 0) from rfl); have ctf7 := blk_frozen BT4.out 7; clear hbox hb hg)
    | ((with_reducible refine gate_store (t := 87) (p := 8) rfl ?_); refine store_event (t := 87) (p := 8) (v := ?vo8) (w1 := put8 (w4) g8 (.int .i64 q0) (.int .i64 q1) (.int .i64 q2) (.int .i64 q3) (.int .i64 q4) (.int .i64 q5) (.int .i64 q6) (.int .i64 q7)) ?hg ?ho ?hn ?hr ?_; (case ho => rfl); (case hg => rfl); (case hn => rfl); (case hr => first | (go_simp; done) | (go_simp; rfl)); intro w5 hw; have BT5 := Aside0.mk (show w5.heap[g8]? = some (.cells #[.int .i64 q0, .int .i64 q1, .int .i64 q2, .int .i64 q3, .int .i64 q4, .int .i64 q5, .int .i64 q6, .int .i64 q7] 87 (0, 0)) from by rw [hw]; exact put8_blk BT4.out (.int .i64 q0) (.int .i64 q1) (.int .i64 q2) (.int .i64 q3) (.int .i64 q4) (.int .i64 q5) (.int .i64 q6) (.int .i64 q7)); have BR5 := Aside0.mk (show w5.heap[g2]? = some (.cells #[.int .i64 0, .int .i64 0, .int .i64 0, .int .i64 0, .int .i64 0, .int .i64 0, .int .i64 0, .int .i64 0] 87 (0, 0)) from by rw [hw]; exact blk_grown BR4.out (put8_grown w4 g8 (.int .i64 q0) (.int .i64 q1) (.int .i64 q2) (.int .i64 q3) (.int .i64 q4) (.int .i64 q5) (.int .i64 q6) (.int .i64 q7)) (fun e => NE.out (by injection e))); have HB5 := Aside0.mk (show Below w.heap.size w w5 from by rw [hw]; exact HB4.out.grown (put8_grown w4 g8 (.int .i64 q0) (.int .i64 q1) (.int .i64 q2) (.int .i64 q3) (.int .i64 q4) (.int .i64 q5) (.int .i64 q6) (.int .i64 q7)) (below_size HB4.out) (fun q hq => by cases hq; exact GT.out)); clear ct0 ctf0 ct1 ctf1 ct2 ctf2 ct3 ctf3 ct4 ctf4 ct5 ctf5 ct6 ctf6 ct7 ctf7; have ct0 := (blk_cell BT5.out 0).trans (show _ = some (.int .i64 q0) from rfl); have ctf0 := blk_frozen BT5.out 0; have ct1 := (blk_cell BT5.out 1).trans (show _ = some (.int .i64 q1) from rfl); have ctf1 := blk_frozen BT5.out 1; have ct2 := (blk_cell BT5.out 2).trans (show _ = some (.int .i64 q2) from rfl); have ctf2 := blk_frozen BT5.out 2; have ct3 := (blk_cell BT5.out 3).trans (show _ = some (.int .i64 q3) from rfl); have ctf3 := blk_frozen BT5.out 3; have ct4 := (blk_cell BT5.out 4).trans (show _ = some (.int .i64 q4) from rfl); have ctf4 := blk_frozen BT5.out 4; have ct5 := (blk_cell BT5.out 5).trans (show _ = some (.int .i64 q5) from rfl); have ctf5 := blk_frozen BT5.out 5; have ct6 := (blk_cell BT5.out 6).trans (show _ = some (.int .i64 q6) from rfl); have ctf6 := blk_frozen BT5.out 6; have ct7 := (blk_cell BT5.out 7).trans (show _ = some (.int .i64 q7) from rfl); have ctf7 := blk_frozen BT5.out 7; have cr0 := (blk_cell BR5.out 0).trans (show _ = some (.int .i64 0) from rfl); have crf0 := blk_frozen BR5.out 0; have cr1 := (blk_cell BR5.out 1).trans (show _ = some (.int .i64 0) from rfl); have crf1 := blk_frozen BR5.out 1; have cr2 := (blk_cell BR5.out 2).trans (show _ = some (.int .i64 0) from rfl); have crf2 := blk_frozen BR5.out 2; have cr3 := (blk_cell BR5.out 3).trans (show _ = some (.int .i64 0) from rfl); have crf3 := blk_frozen BR5.out 3; have cr4 := (blk_cell BR5.out 4).trans (show _ = some (.int .i64 0) from rfl); have crf4 := blk_frozen BR5.out 4; have cr5 := (blk_cell BR5.out 5).trans (show _ = some (.int .i64 0) from rfl); have crf5 := blk_frozen BR5.out 5; have cr6 := (blk_cell BR5.out 6).trans (show _ = some (.int .i64 0) from rfl); have crf6 := blk_frozen BR5.out 6; have cr7 := (blk_cell BR5.out 7).trans (show _ = some (.int .i64 0) from rfl); have crf7 := blk_frozen BR5.out 7; clear hw)
    | ((with_reducible refine gate_store (t := 87) (p := 2) rfl ?_); refine store_event (t := 87) (p := 2) (v := ?vo2) (w1 := (put8 w5 g2 (.int .i64 0) (.int .i64 0) (.int .i64 0) (.int .i64 0) (.int .i64 0) (.int .i64 0) (.int .i64 0) (.int .i64 0))) ?hg ?ho ?hn ?hr ?_; (case ho => rfl); (case hg => rfl); (case hn => rfl); (case hr => first | (go_simp; done) | (go_simp; rfl)); intro w9 hw; have BX := Aside0.mk (show w9.heap[g2]? = some (.cells #[.int .i64 0, .int .i64 0, .int .i64 0, .int .i64 0, .int .i64 0, .int .i64 0, .int .i64 0, .int .i64 0] 87 (0, 0)) from by rw [hw]; exact put8_blk BR5.out (.int .i64 0) (.int .i64 0) (.int .i64 0) (.int .i64 0) (.int .i64 0) (.int .i64 0) (.int .i64 0) (.int .i64 0)); have HX := Aside0.mk (show Below w.heap.size w w9 from by rw [hw]; exact HB5.out.grown (put8_grown w5 g2 (.int .i64 0) (.int .i64 0) (.int .i64 0) (.int .i64 0) (.int .i64 0) (.int .i64 0) (.int .i64 0) (.int .i64 0)) (below_size HB5.out) (fun q hq => by cases hq; exact GR.out)); clear hw))
  refine bodyPost_ret (results_ct rfl _ _ g2 87 #[.int .i64 0, .int .i64 0, .int .i64 0, .int .i64 0, .int .i64 0, .int .i64 0, .int .i64 0, .int .i64 0] (0, 0) _ rfl BX.out Try.underlying87 rfl (by kernel_rfl)) rfl ?_
  exact ⟨T, x, rfl, HX.out⟩
set_option maxHeartbeats 8000000 in
set_option maxRecDepth 100000 in
theorem Gen_db (A0 : Option Addr) (c0 : Nat) (l : List Int) (S : ByteArray) (Y mo d h mi n a : Int) (c : Nat) (R4 R5 R6 : ByteArray) (w : World) (hr0 : Kd.C (Kd.int .u8) w A0 l.length l) (hS : S = strOfNums l) (x1 : dg4 S = true) (ev : Y = dv4 S) (z0 : dg2 (dr4 S) = true) (z1 : dg2 (dr2 (dr4 S)) = true) (z2 : dg2 (dr2 (dr2 (dr4 S))) = true) (z3 : dg2 (dr2 (dr2 (dr2 (dr4 S)))) = true) (e1 : mo = dv2 (dr4 S)) (e2 : d = dv2 (dr2 (dr4 S))) (e3 : h = dv2 (dr2 (dr2 (dr4 S)))) (e4 : mi = dv2 (dr2 (dr2 (dr2 (dr4 S))))) (e5 : R4 = dr2 (dr2 (dr2 (dr2 (dr4 S))))) (x3 : dateB Y mo d h mi = false) :
    Calls Try.prog 85 #[.slice A0 l.length c0] w (PBad w) := by
  have bY := dv4_range x1
  rw [← ev] at bY
  have X1' := Aside0.mk x1
  have EV' := Aside0.mk ev
  have Z0' := Aside0.mk z0
  have Z1' := Aside0.mk z1
  have Z2' := Aside0.mk z2
  have Z3' := Aside0.mk z3
  have E1' := Aside0.mk e1
  have E2' := Aside0.mk e2
  have E3' := Aside0.mk e3
  have E4' := Aside0.mk e4
  have E5' := Aside0.mk e5
  have X3' := Aside0.mk x3
  have HR0 := Aside0.mk hr0
  have HS := Aside0.mk hS
  have HB0 := Aside0.mk (Below.refl w.heap.size w)
  clear hr0 hS x1 ev z0 z1 z2 z3 e1 e2 e3 e4 e5 x3
  go_enter Try.func85, Try.ntmps85
  go_wp2_with (first
    | ((with_reducible refine gate_dst (N := 2) rfl ?_); refine box_event ?hg (N := 2) ?hd (cs := #[.int .i64 0, .int .i64 0, .int .i64 0, .int .i64 0, .int .i64 0, .int .i64 0, .int .i64 0, .int .i64 0]) (t := 87) ?hr ?_; (case hd => rfl); (case hg => rfl); (case hr => first | (go_simp; done) | (go_simp; rfl)); intro g2 hg w1 hbox hb; have BR1 := Aside0.mk hbox; have HB1 := Aside0.mk (below_step HB0.out hb); have GR := Aside0.mk (show w.heap.size ≤ g2 by rw [hg]; exact Nat.le_refl _); clear hbox hb hg)
    | (go_at_call 97; (with_reducible refine (errors_New_any _ _).mono ?_); rintro e w2 ⟨T, x, rfl, hb⟩; have BR2 := Aside0.mk (blk_below BR1.out hb); have HB2 := Aside0.mk (below_step HB1.out hb); have hcv := Kd.C_string (P := Try.prog) (A := A0) (c := c0) Try.underlying25 Try.underlying5 Try.underlying9 (Kd.C_below HR0.out HB2.out); rw [← HS.out] at hcv; clear hb)
    | (go_at_call 98; (with_reducible refine (dig4_yes S _ X1'.out).mono ?_); rw [← EV'.out]; rintro e w3 ⟨rfl, ⟨n1, rfl⟩⟩; clear hcv)
    | (go_at_call 99; (with_reducible refine (zzDate_yes Y mo d h mi (dr4 S) _ Z0'.out Z1'.out Z2'.out Z3'.out E1'.out E2'.out E3'.out E4'.out).mono ?_); rw [X3'.out, ← E5'.out]; rintro e w3 ⟨rfl, hb⟩; have BR3 := Aside0.mk (blk_below (blk_drewN BR2.out n1) hb); have HB3 := Aside0.mk (below_step (pw_below_drewN HB2.out n1) hb); clear hb)
    | ((with_reducible refine gate_dst (N := 8) rfl ?_); refine box_event ?hg (N := 8) ?hd (cs := #[.int .i64 0, .int .i64 0, .int .i64 0, .int .i64 0, .int .i64 0, .int .i64 0, .int .i64 0, .int .i64 0]) (t := 87) ?hr ?_; (case hd => rfl); (case hg => rfl); (case hr => first | (go_simp; done) | (go_simp; rfl)); intro g8 hg w4 hbox hb; have BR4 := Aside0.mk (blk_below BR3.out hb); have HB4 := Aside0.mk (below_step HB3.out hb); have BT4 := Aside0.mk hbox; have GT := Aside0.mk (show w.heap.size ≤ g8 by rw [hg]; exact below_size HB3.out); have NE := Aside0.mk (show g2 ≠ g8 by rw [hg]; exact Nat.ne_of_lt (blk_lt BR3.out)); have ct0 := (blk_cell BT4.out 0).trans (show _ = some (.int .i64 0) from rfl); have ctf0 := blk_frozen BT4.out 0; have ct1 := (blk_cell BT4.out 1).trans (show _ = some (.int .i64 0) from rfl); have ctf1 := blk_frozen BT4.out 1; have ct2 := (blk_cell BT4.out 2).trans (show _ = some (.int .i64 0) from rfl); have ctf2 := blk_frozen BT4.out 2; have ct3 := (blk_cell BT4.out 3).trans (show _ = some (.int .i64 0) from rfl); have ctf3 := blk_frozen BT4.out 3; have ct4 := (blk_cell BT4.out 4).trans (show _ = some (.int .i64 0) from rfl); have ctf4 := blk_frozen BT4.out 4; have ct5 := (blk_cell BT4.out 5).trans (show _ = some (.int .i64 0) from rfl); have ctf5 := blk_frozen BT4.out 5; have ct6 := (blk_cell BT4.out 6).trans (show _ = some (.int .i64 0) from rfl); have ctf6 := blk_frozen BT4.out 6; have ct7 := (blk_cell BT4.out 7).trans (show _ = some (.int .i64 0) from rfl); have ctf7 := blk_frozen BT4.out 7; clear hbox hb hg)
    | ((with_reducible refine gate_store (t := 87) (p := 8) rfl ?_); refine store_event (t := 87) (p := 8) (v := ?vo8) (w1 := put8 (w4) g8 (.int .i64 Y) (.int .i64 mo) (.int .i64 d) (.int .i64 h) (.int .i64 mi) (.int .i64 0) (.int .i64 0) (.int .i64 0)) ?hg ?ho ?hn ?hr ?_; (case ho => rfl); (case hg => rfl); (case hn => rfl); (case hr => first | (go_simp; done) | (go_simp; rfl)); intro w5 hw; have BT5 := Aside0.mk (show w5.heap[g8]? = some (.cells #[.int .i64 Y, .int .i64 mo, .int .i64 d, .int .i64 h, .int .i64 mi, .int .i64 0, .int .i64 0, .int .i64 0] 87 (0, 0)) from by rw [hw]; exact put8_blk BT4.out (.int .i64 Y) (.int .i64 mo) (.int .i64 d) (.int .i64 h) (.int .i64 mi) (.int .i64 0) (.int .i64 0) (.int .i64 0)); have BR5 := Aside0.mk (show w5.heap[g2]? = some (.cells #[.int .i64 0, .int .i64 0, .int .i64 0, .int .i64 0, .int .i64 0, .int .i64 0, .int .i64 0, .int .i64 0] 87 (0, 0)) from by rw [hw]; exact blk_grown BR4.out (put8_grown w4 g8 (.int .i64 Y) (.int .i64 mo) (.int .i64 d) (.int .i64 h) (.int .i64 mi) (.int .i64 0) (.int .i64 0) (.int .i64 0)) (fun e => NE.out (by injection e))); have HB5 := Aside0.mk (show Below w.heap.size w w5 from by rw [hw]; exact HB4.out.grown (put8_grown w4 g8 (.int .i64 Y) (.int .i64 mo) (.int .i64 d) (.int .i64 h) (.int .i64 mi) (.int .i64 0) (.int .i64 0) (.int .i64 0)) (below_size HB4.out) (fun q hq => by cases hq; exact GT.out)); clear ct0 ctf0 ct1 ctf1 ct2 ctf2 ct3 ctf3 ct4 ctf4 ct5 ctf5 ct6 ctf6 ct7 ctf7; have ct0 := (blk_cell BT5.out 0).trans (show _ = some (.int .i64 Y) from rfl); have ctf0 := blk_frozen BT5.out 0; have ct1 := (blk_cell BT5.out 1).trans (show _ = some (.int .i64 mo) from rfl); have ctf1 := blk_frozen BT5.out 1; have ct2 := (blk_cell BT5.out 2).trans (show _ = some (.int .i64 d) from rfl); have ctf2 := blk_frozen BT5.out 2; have ct3 := (blk_cell BT5.out 3).trans (show _ = some (.int .i64 h) from rfl); have ctf3 := blk_frozen BT5.out 3; have ct4 := (blk_cell BT5.out 4).trans (show _ = some (.int .i64 mi) from rfl); have ctf4 := blk_frozen BT5.out 4; have ct5 := (blk_cell BT5.out 5).trans (show _ = some (.int .i64 0) from rfl); have ctf5 := blk_frozen BT5.out 5; have ct6 := (blk_cell BT5.out 6).trans (show _ = some (.int .i64 0) from rfl); have ctf6 := blk_frozen BT5.out 6; have ct7 := (blk_cell BT5.out 7).trans (show _ = some (.int .i64 0) from rfl); have ctf7 := blk_frozen BT5.out 7; have cr0 := (blk_cell BR5.out 0).trans (show _ = some (.int .i64 0) from rfl); have crf0 := blk_frozen BR5.out 0; have cr1 := (blk_cell BR5.out 1).trans (show _ = some (.int .i64 0) from rfl); have crf1 := blk_frozen BR5.out 1; have cr2 := (blk_cell BR5.out 2).trans (show _ = some (.int .i64 0) from rfl); have crf2 := blk_frozen BR5.out 2; have cr3 := (blk_cell BR5.out 3).trans (show _ = some (.int .i64 0) from rfl); have crf3 := blk_frozen BR5.out 3; have cr4 := (blk_cell BR5.out 4).trans (show _ = some (.int .i64 0) from rfl); have crf4 := blk_frozen BR5.out 4; have cr5 := (blk_cell BR5.out 5).trans (show _ = some (.int .i64 0) from rfl); have crf5 := blk_frozen BR5.out 5; have cr6 := (blk_cell BR5.out 6).trans (show _ = some (.int .i64 0) from rfl); have crf6 := blk_frozen BR5.out 6; have cr7 := (blk_cell BR5.out 7).trans (show _ = some (.int .i64 0) from rfl); have crf7 := blk_frozen BR5.out 7; clear hw)
    | ((with_reducible refine gate_store (t := 87) (p := 2) rfl ?_); refine store_event (t := 87) (p := 2) (v := ?vo2) (w1 := (put8 w5 g2 (.int .i64 0) (.int .i64 0) (.int .i64 0) (.int .i64 0) (.int .i64 0) (.int .i64 0) (.int .i64 0) (.int .i64 0))) ?hg ?ho ?hn ?hr ?_; (case ho => rfl); (case hg => rfl); (case hn => rfl); (case hr => first | (go_simp; done) | (go_simp; rfl)); intro w9 hw; have BX := Aside0.mk (show w9.heap[g2]? = some (.cells #[.int .i64 0, .int .i64 0, .int .i64 0, .int .i64 0, .int .i64 0, .int .i64 0, .int .i64 0, .int .i64 0] 87 (0, 0)) from by rw [hw]; exact put8_blk BR5.out (.int .i64 0) (.int .i64 0) (.int .i64 0) (.int .i64 0) (.int .i64 0) (.int .i64 0) (.int .i64 0) (.int .i64 0)); have HX := Aside0.mk (show Below w.heap.size w w9 from by rw [hw]; exact HB5.out.grown (put8_grown w5 g2 (.int .i64 0) (.int .i64 0) (.int .i64 0) (.int .i64 0) (.int .i64 0) (.int .i64 0) (.int .i64 0) (.int .i64 0)) (below_size HB5.out) (fun q hq => by cases hq; exact GR.out)); clear hw))
  refine bodyPost_ret (results_ct rfl _ _ g2 87 #[.int .i64 0, .int .i64 0, .int .i64 0, .int .i64 0, .int .i64 0, .int .i64 0, .int .i64 0, .int .i64 0] (0, 0) _ rfl BX.out Try.underlying87 rfl (by kernel_rfl)) rfl ?_
  exact ⟨T, x, rfl, HX.out⟩
set_option maxHeartbeats 8000000 in
set_option maxRecDepth 100000 in
theorem Gen_s2 (A0 : Option Addr) (c0 : Nat) (l : List Int) (S : ByteArray) (Y mo d h mi n a : Int) (c : Nat) (R4 R5 R6 : ByteArray) (w : World) (hr0 : Kd.C (Kd.int .u8) w A0 l.length l) (hS : S = strOfNums l) (x1 : dg4 S = true) (ev : Y = dv4 S) (z0 : dg2 (dr4 S) = true) (z1 : dg2 (dr2 (dr4 S)) = true) (z2 : dg2 (dr2 (dr2 (dr4 S))) = true) (z3 : dg2 (dr2 (dr2 (dr2 (dr4 S)))) = true) (e1 : mo = dv2 (dr4 S)) (e2 : d = dv2 (dr2 (dr4 S))) (e3 : h = dv2 (dr2 (dr2 (dr4 S)))) (e4 : mi = dv2 (dr2 (dr2 (dr2 (dr4 S))))) (e5 : R4 = dr2 (dr2 (dr2 (dr2 (dr4 S))))) (x3 : dateB Y mo d h mi = true) (x4 : dg2 R4 = false) :
    Calls Try.prog 85 #[.slice A0 l.length c0] w (PBad w) := by
  have bY := dv4_range x1
  rw [← ev] at bY
  have X1' := Aside0.mk x1
  have EV' := Aside0.mk ev
  have Z0' := Aside0.mk z0
  have Z1' := Aside0.mk z1
  have Z2' := Aside0.mk z2
  have Z3' := Aside0.mk z3
  have E1' := Aside0.mk e1
  have E2' := Aside0.mk e2
  have E3' := Aside0.mk e3
  have E4' := Aside0.mk e4
  have E5' := Aside0.mk e5
  have X3' := Aside0.mk x3
  have X4' := Aside0.mk x4
  have HR0 := Aside0.mk hr0
  have HS := Aside0.mk hS
  have HB0 := Aside0.mk (Below.refl w.heap.size w)
  clear hr0 hS x1 ev z0 z1 z2 z3 e1 e2 e3 e4 e5 x3 x4
  go_enter Try.func85, Try.ntmps85
  go_wp2_with (first
    | ((with_reducible refine gate_dst (N := 2) rfl ?_); refine box_event ?hg (N := 2) ?hd (cs := #[.int .i64 0, .int .i64 0, .int .i64 0, .int .i64 0, .int .i64 0, .int .i64 0, .int .i64 0, .int .i64 0]) (t := 87) ?hr ?_; (case hd => rfl); (case hg => rfl); (case hr => first | (go_simp; done) | (go_simp; rfl)); intro g2 hg w1 hbox hb; have BR1 := Aside0.mk hbox; have HB1 := Aside0.mk (below_step HB0.out hb); have GR := Aside0.mk (show w.heap.size ≤ g2 by rw [hg]; exact Nat.le_refl _); clear hbox hb hg)
    | (go_at_call 97; (with_reducible refine (errors_New_any _ _).mono ?_); rintro e w2 ⟨T, x, rfl, hb⟩; have BR2 := Aside0.mk (blk_below BR1.out hb); have HB2 := Aside0.mk (below_step HB1.out hb); have hcv := Kd.C_string (P := Try.prog) (A := A0) (c := c0) Try.underlying25 Try.underlying5 Try.underlying9 (Kd.C_below HR0.out HB2.out); rw [← HS.out] at hcv; clear hb)
    | (go_at_call 98; (with_reducible refine (dig4_yes S _ X1'.out).mono ?_); rw [← EV'.out]; rintro e w3 ⟨rfl, ⟨n1, rfl⟩⟩; clear hcv)
    | (go_at_call 99; (with_reducible refine (zzDate_yes Y mo d h mi (dr4 S) _ Z0'.out Z1'.out Z2'.out Z3'.out E1'.out E2'.out E3'.out E4'.out).mono ?_); rw [X3'.out, ← E5'.out]; rintro e w3 ⟨rfl, hb⟩; have BR3 := Aside0.mk (blk_below (blk_drewN BR2.out n1) hb); have HB3 := Aside0.mk (below_step (pw_below_drewN HB2.out n1) hb); clear hb)
    | ((with_reducible refine gate_dst (N := 8) rfl ?_); refine box_event ?hg (N := 8) ?hd (cs := #[.int .i64 0, .int .i64 0, .int .i64 0, .int .i64 0, .int .i64 0, .int .i64 0, .int .i64 0, .int .i64 0]) (t := 87) ?hr ?_; (case hd => rfl); (case hg => rfl); (case hr => first | (go_simp; done) | (go_simp; rfl)); intro g8 hg w4 hbox hb; have BR4 := Aside0.mk (blk_below BR3.out hb); have HB4 := Aside0.mk (below_step HB3.out hb); have BT4 := Aside0.mk hbox; have GT := Aside0.mk (show w.heap.size ≤ g8 by rw [hg]; exact below_size HB3.out); have NE := Aside0.mk (show g2 ≠ g8 by rw [hg]; exact Nat.ne_of_lt (blk_lt BR3.out)); have ct0 := (blk_cell BT4.out 0).trans (show _ = some (.int .i64 0) from rfl); have ctf0 := blk_frozen BT4.out 0; have ct1 := (blk_cell BT4.out 1).trans (show _ = some (.int .i64 0) from rfl); have ctf1 := blk_frozen BT4.out 1; have ct2 := (blk_cell BT4.out 2).trans (show _ = some (.int .i64 0) from rfl); have ctf2 := blk_frozen BT4.out 2; have ct3 := (blk_cell BT4.out 3).trans (show _ = some (.int .i64 0) from rfl); have ctf3 := blk_frozen BT4.out 3; have ct4 := (blk_cell BT4.out 4).trans (show _ = some (.int .i64 0) from rfl); have ctf4 := blk_frozen BT4.out 4; have ct5 := (blk_cell BT4.out 5).trans (show _ = some (.int .i64 0) from rfl); have ctf5 := blk_frozen BT4.out 5; have ct6 := (blk_cell BT4.out 6).trans (show _ = some (.int .i64 0) from rfl); have ctf6 := blk_frozen BT4.out 6; have ct7 := (blk_cell BT4.out 7).trans (show _ = some (.int .i64 0) from rfl); have ctf7 := blk_frozen BT4.out 7; clear hbox hb hg)
    | ((with_reducible refine gate_store (t := 87) (p := 8) rfl ?_); refine store_event (t := 87) (p := 8) (v := ?vo8) (w1 := put8 (w4) g8 (.int .i64 Y) (.int .i64 mo) (.int .i64 d) (.int .i64 h) (.int .i64 mi) (.int .i64 0) (.int .i64 0) (.int .i64 0)) ?hg ?ho ?hn ?hr ?_; (case ho => rfl); (case hg => rfl); (case hn => rfl); (case hr => first | (go_simp; done) | (go_simp; rfl)); intro w5 hw; have BT5 := Aside0.mk (show w5.heap[g8]? = some (.cells #[.int .i64 Y, .int .i64 mo, .int .i64 d, .int .i64 h, .int .i64 mi, .int .i64 0, .int .i64 0, .int .i64 0] 87 (0, 0)) from by rw [hw]; exact put8_blk BT4.out (.int .i64 Y) (.int .i64 mo) (.int .i64 d) (.int .i64 h) (.int .i64 mi) (.int .i64 0) (.int .i64 0) (.int .i64 0)); have BR5 := Aside0.mk (show w5.heap[g2]? = some (.cells #[.int .i64 0, .int .i64 0, .int .i64 0, .int .i64 0, .int .i64 0, .int .i64 0, .int .i64 0, .int .i64 0] 87 (0, 0)) from by rw [hw]; exact blk_grown BR4.out (put8_grown w4 g8 (.int .i64 Y) (.int .i64 mo) (.int .i64 d) (.int .i64 h) (.int .i64 mi) (.int .i64 0) (.int .i64 0) (.int .i64 0)) (fun e => NE.out (by injection e))); have HB5 := Aside0.mk (show Below w.heap.size w w5 from by rw [hw]; exact HB4.out.grown (put8_grown w4 g8 (.int .i64 Y) (.int .i64 mo) (.int .i64 d) (.int .i64 h) (.int .i64 mi) (.int .i64 0) (.int .i64 0) (.int .i64 0)) (below_size HB4.out) (fun q hq => by cases hq; exact GT.out)); clear ct0 ctf0 ct1 ctf1 ct2 ctf2 ct3 ctf3 ct4 ctf4 ct5 ctf5 ct6 ctf6 ct7 ctf7; have ct0 := (blk_cell BT5.out 0).trans (show _ = some (.int .i64 Y) from rfl); have ctf0 := blk_frozen BT5.out 0; have ct1 := (blk_cell BT5.out 1).trans (show _ = some (.int .i64 mo) from rfl); have ctf1 := blk_frozen BT5.out 1; have ct2 := (blk_cell BT5.out 2).trans (show _ = some (.int .i64 d) from rfl); have ctf2 := blk_frozen BT5.out 2; have ct3 := (blk_cell BT5.out 3).trans (show _ = some (.int .i64 h) from rfl); have ctf3 := blk_frozen BT5.out 3; have ct4 := (blk_cell BT5.out 4).trans (show _ = some (.int .i64 mi) from rfl); have ctf4 := blk_frozen BT5.out 4; have ct5 := (blk_cell BT5.out 5).trans (show _ = some (.int .i64 0) from rfl); have ctf5 := blk_frozen BT5.out 5; have ct6 := (blk_cell BT5.out 6).trans (show _ = some (.int .i64 0) from rfl); have ctf6 := blk_frozen BT5.out 6; have ct7 := (blk_cell BT5.out 7).trans (show _ = some (.int .i64 0) from rfl); have ctf7 := blk_frozen BT5.out 7; have cr0 := (blk_cell BR5.out 0).trans (show _ = some (.int .i64 0) from rfl); have crf0 := blk_frozen BR5.out 0; have cr1 := (blk_cell BR5.out 1).trans (show _ = some (.int .i64 0) from rfl); have crf1 := blk_frozen BR5.out 1; have cr2 := (blk_cell BR5.out 2).trans (show _ = some (.int .i64 0) from rfl); have crf2 := blk_frozen BR5.out 2; have cr3 := (blk_cell BR5.out 3).trans (show _ = some (.int .i64 0) from rfl); have crf3 := blk_frozen BR5.out 3; have cr4 := (blk_cell BR5.out 4).trans (show _ = some (.int .i64 0) from rfl); have crf4 := blk_frozen BR5.out 4; have cr5 := (blk_cell BR5.out 5).trans (show _ = some (.int .i64 0) from rfl); have crf5 := blk_frozen BR5.out 5; have cr6 := (blk_cell BR5.out 6).trans (show _ = some (.int .i64 0) from rfl); have crf6 := blk_frozen BR5.out 6; have cr7 := (blk_cell BR5.out 7).trans (show _ = some (.int .i64 0) from rfl); have crf7 := blk_frozen BR5.out 7; clear hw)
    | (go_at_call 98; (with_reducible refine (dig2_no R4 _ X4'.out).mono ?_); rintro e wq ⟨rfl, ⟨n5, rfl⟩⟩)
    | ((with_reducible refine gate_store (t := 3) (p := 40) rfl ?_); refine store_event (t := 3) (p := 40) (v := ?vo40) (w1 := (w5.setCell ⟨g8, 5, none⟩ (.int .i64 0)).drewN n5) ?hg ?ho ?hn ?hr ?_; (case ho => rfl); (case hg => rfl); (case hn => rfl); (case hr => first | (go_simp; done) | (go_simp; rfl)); intro w6 hw; have BT6 := Aside0.mk (show w6.heap[g8]? = some (.cells #[.int .i64 Y, .int .i64 mo, .int .i64 d, .int .i64 h, .int .i64 mi, .int .i64 0, .int .i64 0, .int .i64 0] 87 (0, 0)) from by rw [hw]; exact blk_drewN (blk_put (cs := #[.int .i64 Y, .int .i64 mo, .int .i64 d, .int .i64 h, .int .i64 mi, .int .i64 0, .int .i64 0, .int .i64 0]) BT5.out 5 _ rfl) _); have BR6 := Aside0.mk (show w6.heap[g2]? = some (.cells #[.int .i64 0, .int .i64 0, .int .i64 0, .int .i64 0, .int .i64 0, .int .i64 0, .int .i64 0, .int .i64 0] 87 (0, 0)) from by rw [hw]; exact blk_drewN (blk_far BR5.out NE.out _) _); have HB6 := Aside0.mk (show Below w.heap.size w w6 from by rw [hw]; exact pw_below_drewN (below_set HB5.out GT.out) _); clear ct0 ctf0 ct1 ctf1 ct2 ctf2 ct3 ctf3 ct4 ctf4 ct5 ctf5 ct6 ctf6 ct7 ctf7; have ct0 := (blk_cell BT6.out 0).trans (show _ = some (.int .i64 Y) from rfl); have ctf0 := blk_frozen BT6.out 0; have ct1 := (blk_cell BT6.out 1).trans (show _ = some (.int .i64 mo) from rfl); have ctf1 := blk_frozen BT6.out 1; have ct2 := (blk_cell BT6.out 2).trans (show _ = some (.int .i64 d) from rfl); have ctf2 := blk_frozen BT6.out 2; have ct3 := (blk_cell BT6.out 3).trans (show _ = some (.int .i64 h) from rfl); have ctf3 := blk_frozen BT6.out 3; have ct4 := (blk_cell BT6.out 4).trans (show _ = some (.int .i64 mi) from rfl); have ctf4 := blk_frozen BT6.out 4; have ct5 := (blk_cell BT6.out 5).trans (show _ = some (.int .i64 0) from rfl); have ctf5 := blk_frozen BT6.out 5; have ct6 := (blk_cell BT6.out 6).trans (show _ = some (.int .i64 0) from rfl); have ctf6 := blk_frozen BT6.out 6; have ct7 := (blk_cell BT6.out 7).trans (show _ = some (.int .i64 0) from rfl); have ctf7 := blk_frozen BT6.out 7; clear cr0 crf0 cr1 crf1 cr2 crf2 cr3 crf3 cr4 crf4 cr5 crf5 cr6 crf6 cr7 crf7; have cr0 := (blk_cell BR6.out 0).trans (show _ = some (.int .i64 0) from rfl); have crf0 := blk_frozen BR6.out 0; have cr1 := (blk_cell BR6.out 1).trans (show _ = some (.int .i64 0) from rfl); have crf1 := blk_frozen BR6.out 1; have cr2 := (blk_cell BR6.out 2).trans (show _ = some (.int .i64 0) from rfl); have crf2 := blk_frozen BR6.out 2; have cr3 := (blk_cell BR6.out 3).trans (show _ = some (.int .i64 0) from rfl); have crf3 := blk_frozen BR6.out 3; have cr4 := (blk_cell BR6.out 4).trans (show _ = some (.int .i64 0) from rfl); have crf4 := blk_frozen BR6.out 4; have cr5 := (blk_cell BR6.out 5).trans (show _ = some (.int .i64 0) from rfl); have crf5 := blk_frozen BR6.out 5; have cr6 := (blk_cell BR6.out 6).trans (show _ = some (.int .i64 0) from rfl); have crf6 := blk_frozen BR6.out 6; have cr7 := (blk_cell BR6.out 7).trans (show _ = some (.int .i64 0) from rfl); have crf7 := blk_frozen BR6.out 7; clear hw)
    | ((with_reducible refine gate_store (t := 87) (p := 2) rfl ?_); refine store_event (t := 87) (p := 2) (v := ?vo2) (w1 := (put8 w6 g2 (.int .i64 0) (.int .i64 0) (.int .i64 0) (.int .i64 0) (.int .i64 0) (.int .i64 0) (.int .i64 0) (.int .i64 0))) ?hg ?ho ?hn ?hr ?_; (case ho => rfl); (case hg => rfl); (case hn => rfl); (case hr => first | (go_simp; done) | (go_simp; rfl)); intro w9 hw; have BX := Aside0.mk (show w9.heap[g2]? = some (.cells #[.int .i64 0, .int .i64 0, .int .i64 0, .int .i64 0, .int .i64 0, .int .i64 0, .int .i64 0, .int .i64 0] 87 (0, 0)) from by rw [hw]; exact put8_blk BR6.out (.int .i64 0) (.int .i64 0) (.int .i64 0) (.int .i64 0) (.int .i64 0) (.int .i64 0) (.int .i64 0) (.int .i64 0)); have HX := Aside0.mk (show Below w.heap.size w w9 from by rw [hw]; exact HB6.out.grown (put8_grown w6 g2 (.int .i64 0) (.int .i64 0) (.int .i64 0) (.int .i64 0) (.int .i64 0) (.int .i64 0) (.int .i64 0) (.int .i64 0)) (below_size HB6.out) (fun q hq => by cases hq; exact GR.out)); clear hw))
  refine bodyPost_ret (results_ct rfl _ _ g2 87 #[.int .i64 0, .int .i64 0, .int .i64 0, .int .i64 0, .int .i64 0, .int .i64 0, .int .i64 0, .int .i64 0] (0, 0) _ rfl BX.out Try.underlying87 rfl (by kernel_rfl)) rfl ?_
  exact ⟨T, x, rfl, HX.out⟩
set_option maxHeartbeats 8000000 in
set_option maxRecDepth 100000 in
theorem Gen_s60 (A0 : Option Addr) (c0 : Nat) (l : List Int) (S : ByteArray) (Y mo d h mi n a : Int) (c : Nat) (R4 R5 R6 : ByteArray) (w : World) (hr0 : Kd.C (Kd.int .u8) w A0 l.length l) (hS : S = strOfNums l) (x1 : dg4 S = true) (ev : Y = dv4 S) (z0 : dg2 (dr4 S) = true) (z1 : dg2 (dr2 (dr4 S)) = true) (z2 : dg2 (dr2 (dr2 (dr4 S))) = true) (z3 : dg2 (dr2 (dr2 (dr2 (dr4 S)))) = true) (e1 : mo = dv2 (dr4 S)) (e2 : d = dv2 (dr2 (dr4 S))) (e3 : h = dv2 (dr2 (dr2 (dr4 S)))) (e4 : mi = dv2 (dr2 (dr2 (dr2 (dr4 S))))) (e5 : R4 = dr2 (dr2 (dr2 (dr2 (dr4 S))))) (x3 : dateB Y mo d h mi = true) (x4 : dg2 R4 = true) (e6 : n = dv2 R4) (e7 : R5 = dr2 R4) (x5 : 60 ≤ n) :
    Calls Try.prog 85 #[.slice A0 l.length c0] w (PBad w) := by
  have bY := dv4_range x1
  rw [← ev] at bY
  have bn := dv2_range x4
  rw [← e6] at bn
  have X1' := Aside0.mk x1
  have EV' := Aside0.mk ev
  have Z0' := Aside0.mk z0
  have Z1' := Aside0.mk z1
  have Z2' := Aside0.mk z2
  have Z3' := Aside0.mk z3
  have E1' := Aside0.mk e1
  have E2' := Aside0.mk e2
  have E3' := Aside0.mk e3
  have E4' := Aside0.mk e4
  have E5' := Aside0.mk e5
  have X3' := Aside0.mk x3
  have X4' := Aside0.mk x4
  have E6' := Aside0.mk e6
  have E7' := Aside0.mk e7
  have X5' := Aside0.mk x5
  have t60 : decide (60 ≤ n) = true := decide_eq_true x5
  have HR0 := Aside0.mk hr0
  have HS := Aside0.mk hS
  have HB0 := Aside0.mk (Below.refl w.heap.size w)
  clear hr0 hS x1 ev z0 z1 z2 z3 e1 e2 e3 e4 e5 x3 x4 e6 e7 x5
  go_enter Try.func85, Try.ntmps85
  go_wp2_with (first
    | ((with_reducible refine gate_dst (N := 2) rfl ?_); refine box_event ?hg (N := 2) ?hd (cs := #[.int .i64 0, .int .i64 0, .int .i64 0, .int .i64 0, .int .i64 0, .int .i64 0, .int .i64 0, .int .i64 0]) (t := 87) ?hr ?_; (case hd => rfl); (case hg => rfl); (case hr => first | (go_simp; done) | (go_simp; rfl)); intro g2 hg w1 hbox hb; have BR1 := Aside0.mk hbox; have HB1 := Aside0.mk (below_step HB0.out hb); have GR := Aside0.mk (show w.heap.size ≤ g2 by rw [hg]; exact Nat.le_refl _); clear hbox hb hg)
    | (go_at_call 97; (with_reducible refine (errors_New_any _ _).mono ?_); rintro e w2 ⟨T, x, rfl, hb⟩; have BR2 := Aside0.mk (blk_below BR1.out hb); have HB2 := Aside0.mk (below_step HB1.out hb); have hcv := Kd.C_string (P := Try.prog) (A := A0) (c := c0) Try.underlying25 Try.underlying5 Try.underlying9 (Kd.C_below HR0.out HB2.out); rw [← HS.out] at hcv; clear hb)
    | (go_at_call 98; (with_reducible refine (dig4_yes S _ X1'.out).mono ?_); rw [← EV'.out]; rintro e w3 ⟨rfl, ⟨n1, rfl⟩⟩; clear hcv)
    | (go_at_call 99; (with_reducible refine (zzDate_yes Y mo d h mi (dr4 S) _ Z0'.out Z1'.out Z2'.out Z3'.out E1'.out E2'.out E3'.out E4'.out).mono ?_); rw [X3'.out, ← E5'.out]; rintro e w3 ⟨rfl, hb⟩; have BR3 := Aside0.mk (blk_below (blk_drewN BR2.out n1) hb); have HB3 := Aside0.mk (below_step (pw_below_drewN HB2.out n1) hb); clear hb)
    | ((with_reducible refine gate_dst (N := 8) rfl ?_); refine box_event ?hg (N := 8) ?hd (cs := #[.int .i64 0, .int .i64 0, .int .i64 0, .int .i64 0, .int .i64 0, .int .i64 0, .int .i64 0, .int .i64 0]) (t := 87) ?hr ?_; (case hd => rfl); (case hg => rfl); (case hr => first | (go_simp; done) | (go_simp; rfl)); intro g8 hg w4 hbox hb; have BR4 := Aside0.mk (blk_below BR3.out hb); have HB4 := Aside0.mk (below_step HB3.out hb); have BT4 := Aside0.mk hbox; have GT := Aside0.mk (show w.heap.size ≤ g8 by rw [hg]; exact below_size HB3.out); have NE := Aside0.mk (show g2 ≠ g8 by rw [hg]; exact Nat.ne_of_lt (blk_lt BR3.out)); have ct0 := (blk_cell BT4.out 0).trans (show _ = some (.int .i64 0) from rfl); have ctf0 := blk_frozen BT4.out 0; have ct1 := (blk_cell BT4.out 1).trans (show _ = some (.int .i64 0) from rfl); have ctf1 := blk_frozen BT4.out 1; have ct2 := (blk_cell BT4.out 2).trans (show _ = some (.int .i64 0) from rfl); have ctf2 := blk_frozen BT4.out 2; have ct3 := (blk_cell BT4.out 3).trans (show _ = some (.int .i64 0) from rfl); have ctf3 := blk_frozen BT4.out 3; have ct4 := (blk_cell BT4.out 4).trans (show _ = some (.int .i64 0) from rfl); have ctf4 := blk_frozen BT4.out 4; have ct5 := (blk_cell BT4.out 5).trans (show _ = some (.int .i64 0) from rfl); have ctf5 := blk_frozen BT4.out 5; have ct6 := (blk_cell BT4.out 6).trans (show _ = some (.int .i64 0) from rfl); have ctf6 := blk_frozen BT4.out 6; have ct7 := (blk_cell BT4.out 7).trans (show _ = some (.int .i64 0) from rfl); have ctf7 := blk_frozen BT4.out 7; clear hbox hb hg)
    | ((with_reducible refine gate_store (t := 87) (p := 8) rfl ?_); refine store_event (t := 87) (p := 8) (v := ?vo8) (w1 := put8 (w4) g8 (.int .i64 Y) (.int .i64 mo) (.int .i64 d) (.int .i64 h) (.int .i64 mi) (.int .i64 0) (.int .i64 0) (.int .i64 0)) ?hg ?ho ?hn ?hr ?_; (case ho => rfl); (case hg => rfl); (case hn => rfl); (case hr => first | (go_simp; done) | (go_simp; rfl)); intro w5 hw; have BT5 := Aside0.mk (show w5.heap[g8]? = some (.cells #[.int .i64 Y, .int .i64 mo, .int .i64 d, .int .i64 h, .int .i64 mi, .int .i64 0, .int .i64 0, .int .i64 0] 87 (0, 0)) from by rw [hw]; exact put8_blk BT4.out (.int .i64 Y) (.int .i64 mo) (.int .i64 d) (.int .i64 h) (.int .i64 mi) (.int .i64 0) (.int .i64 0) (.int .i64 0)); have BR5 := Aside0.mk (show w5.heap[g2]? = some (.cells #[.int .i64 0, .int .i64 0, .int .i64 0, .int .i64 0, .int .i64 0, .int .i64 0, .int .i64 0, .int .i64 0] 87 (0, 0)) from by rw [hw]; exact blk_grown BR4.out (put8_grown w4 g8 (.int .i64 Y) (.int .i64 mo) (.int .i64 d) (.int .i64 h) (.int .i64 mi) (.int .i64 0) (.int .i64 0) (.int .i64 0)) (fun e => NE.out (by injection e))); have HB5 := Aside0.mk (show Below w.heap.size w w5 from by rw [hw]; exact HB4.out.grown (put8_grown w4 g8 (.int .i64 Y) (.int .i64 mo) (.int .i64 d) (.int .i64 h) (.int .i64 mi) (.int .i64 0) (.int .i64 0) (.int .i64 0)) (below_size HB4.out) (fun q hq => by cases hq; exact GT.out)); clear ct0 ctf0 ct1 ctf1 ct2 ctf2 ct3 ctf3 ct4 ctf4 ct5 ctf5 ct6 ctf6 ct7 ctf7; have ct0 := (blk_cell BT5.out 0).trans (show _ = some (.int .i64 Y) from rfl); have ctf0 := blk_frozen BT5.out 0; have ct1 := (blk_cell BT5.out 1).trans (show _ = some (.int .i64 mo) from rfl); have ctf1 := blk_frozen BT5.out 1; have ct2 := (blk_cell BT5.out 2).trans (show _ = some (.int .i64 d) from rfl); have ctf2 := blk_frozen BT5.out 2; have ct3 := (blk_cell BT5.out 3).trans (show _ = some (.int .i64 h) from rfl); have ctf3 := blk_frozen BT5.out 3; have ct4 := (blk_cell BT5.out 4).trans (show _ = some (.int .i64 mi) from rfl); have ctf4 := blk_frozen BT5.out 4; have ct5 := (blk_cell BT5.out 5).trans (show _ = some (.int .i64 0) from rfl); have ctf5 := blk_frozen BT5.out 5; have ct6 := (blk_cell BT5.out 6).trans (show _ = some (.int .i64 0) from rfl); have ctf6 := blk_frozen BT5.out 6; have ct7 := (blk_cell BT5.out 7).trans (show _ = some (.int .i64 0) from rfl); have ctf7 := blk_frozen BT5.out 7; have cr0 := (blk_cell BR5.out 0).trans (show _ = some (.int .i64 0) from rfl); have crf0 := blk_frozen BR5.out 0; have cr1 := (blk_cell BR5.out 1).trans (show _ = some (.int .i64 0) from rfl); have crf1 := blk_frozen BR5.out 1; have cr2 := (blk_cell BR5.out 2).trans (show _ = some (.int .i64 0) from rfl); have crf2 := blk_frozen BR5.out 2; have cr3 := (blk_cell BR5.out 3).trans (show _ = some (.int .i64 0) from rfl); have crf3 := blk_frozen BR5.out 3; have cr4 := (blk_cell BR5.out 4).trans (show _ = some (.int .i64 0) from rfl); have crf4 := blk_frozen BR5.out 4; have cr5 := (blk_cell BR5.out 5).trans (show _ = some (.int .i64 0) from rfl); have crf5 := blk_frozen BR5.out 5; have cr6 := (blk_cell BR5.out 6).trans (show _ = some (.int .i64 0) from rfl); have crf6 := blk_frozen BR5.out 6; have cr7 := (blk_cell BR5.out 7).trans (show _ = some (.int .i64 0) from rfl); have crf7 := blk_frozen BR5.out 7; clear hw)
    | (go_at_call 98; (with_reducible refine (dig2_yes R4 _ X4'.out).mono ?_); rw [← E6'.out, ← E7'.out]; rintro e wq ⟨rfl, ⟨n5, rfl⟩⟩)
    | ((with_reducible refine gate_store (t := 3) (p := 40) rfl ?_); refine store_event (t := 3) (p := 40) (v := ?vo40) (w1 := (w5.setCell ⟨g8, 5, none⟩ (.int .i64 n)).drewN n5) ?hg ?ho ?hn ?hr ?_; (case ho => rfl); (case hg => rfl); (case hn => rfl); (case hr => first | (go_simp; done) | (go_simp; rfl)); intro w6 hw; have BT6 := Aside0.mk (show w6.heap[g8]? = some (.cells #[.int .i64 Y, .int .i64 mo, .int .i64 d, .int .i64 h, .int .i64 mi, .int .i64 n, .int .i64 0, .int .i64 0] 87 (0, 0)) from by rw [hw]; exact blk_drewN (blk_put (cs := #[.int .i64 Y, .int .i64 mo, .int .i64 d, .int .i64 h, .int .i64 mi, .int .i64 0, .int .i64 0, .int .i64 0]) BT5.out 5 _ rfl) _); have BR6 := Aside0.mk (show w6.heap[g2]? = some (.cells #[.int .i64 0, .int .i64 0, .int .i64 0, .int .i64 0, .int .i64 0, .int .i64 0, .int .i64 0, .int .i64 0] 87 (0, 0)) from by rw [hw]; exact blk_drewN (blk_far BR5.out NE.out _) _); have HB6 := Aside0.mk (show Below w.heap.size w w6 from by rw [hw]; exact pw_below_drewN (below_set HB5.out GT.out) _); clear ct0 ctf0 ct1 ctf1 ct2 ctf2 ct3 ctf3 ct4 ctf4 ct5 ctf5 ct6 ctf6 ct7 ctf7; have ct0 := (blk_cell BT6.out 0).trans (show _ = some (.int .i64 Y) from rfl); have ctf0 := blk_frozen BT6.out 0; have ct1 := (blk_cell BT6.out 1).trans (show _ = some (.int .i64 mo) from rfl); have ctf1 := blk_frozen BT6.out 1; have ct2 := (blk_cell BT6.out 2).trans (show _ = some (.int .i64 d) from rfl); have ctf2 := blk_frozen BT6.out 2; have ct3 := (blk_cell BT6.out 3).trans (show _ = some (.int .i64 h) from rfl); have ctf3 := blk_frozen BT6.out 3; have ct4 := (blk_cell BT6.out 4).trans (show _ = some (.int .i64 mi) from rfl); have ctf4 := blk_frozen BT6.out 4; have ct5 := (blk_cell BT6.out 5).trans (show _ = some (.int .i64 n) from rfl); have ctf5 := blk_frozen BT6.out 5; have ct6 := (blk_cell BT6.out 6).trans (show _ = some (.int .i64 0) from rfl); have ctf6 := blk_frozen BT6.out 6; have ct7 := (blk_cell BT6.out 7).trans (show _ = some (.int .i64 0) from rfl); have ctf7 := blk_frozen BT6.out 7; clear cr0 crf0 cr1 crf1 cr2 crf2 cr3 crf3 cr4 crf4 cr5 crf5 cr6 crf6 cr7 crf7; have cr0 := (blk_cell BR6.out 0).trans (show _ = some (.int .i64 0) from rfl); have crf0 := blk_frozen BR6.out 0; have cr1 := (blk_cell BR6.out 1).trans (show _ = some (.int .i64 0) from rfl); have crf1 := blk_frozen BR6.out 1; have cr2 := (blk_cell BR6.out 2).trans (show _ = some (.int .i64 0) from rfl); have crf2 := blk_frozen BR6.out 2; have cr3 := (blk_cell BR6.out 3).trans (show _ = some (.int .i64 0) from rfl); have crf3 := blk_frozen BR6.out 3; have cr4 := (blk_cell BR6.out 4).trans (show _ = some (.int .i64 0) from rfl); have crf4 := blk_frozen BR6.out 4; have cr5 := (blk_cell BR6.out 5).trans (show _ = some (.int .i64 0) from rfl); have crf5 := blk_frozen BR6.out 5; have cr6 := (blk_cell BR6.out 6).trans (show _ = some (.int .i64 0) from rfl); have crf6 := blk_frozen BR6.out 6; have cr7 := (blk_cell BR6.out 7).trans (show _ = some (.int .i64 0) from rfl); have crf7 := blk_frozen BR6.out 7; clear hw)
    | ((with_reducible refine gate_store (t := 87) (p := 2) rfl ?_); refine store_event (t := 87) (p := 2) (v := ?vo2) (w1 := (put8 w6 g2 (.int .i64 0) (.int .i64 0) (.int .i64 0) (.int .i64 0) (.int .i64 0) (.int .i64 0) (.int .i64 0) (.int .i64 0))) ?hg ?ho ?hn ?hr ?_; (case ho => rfl); (case hg => rfl); (case hn => rfl); (case hr => first | (go_simp; done) | (go_simp; rfl)); intro w9 hw; have BX := Aside0.mk (show w9.heap[g2]? = some (.cells #[.int .i64 0, .int .i64 0, .int .i64 0, .int .i64 0, .int .i64 0, .int .i64 0, .int .i64 0, .int .i64 0] 87 (0, 0)) from by rw [hw]; exact put8_blk BR6.out (.int .i64 0) (.int .i64 0) (.int .i64 0) (.int .i64 0) (.int .i64 0) (.int .i64 0) (.int .i64 0) (.int .i64 0)); have HX := Aside0.mk (show Below w.heap.size w w9 from by rw [hw]; exact HB6.out.grown (put8_grown w6 g2 (.int .i64 0) (.int .i64 0) (.int .i64 0) (.int .i64 0) (.int .i64 0) (.int .i64 0) (.int .i64 0) (.int .i64 0)) (below_size HB6.out) (fun q hq => by cases hq; exact GR.out)); clear hw))
  refine bodyPost_ret (results_ct rfl _ _ g2 87 #[.int .i64 0, .int .i64 0, .int .i64 0, .int .i64 0, .int .i64 0, .int .i64 0, .int .i64 0, .int .i64 0] (0, 0) _ rfl BX.out Try.underlying87 rfl (by kernel_rfl)) rfl ?_
  exact ⟨T, x, rfl, HX.out⟩
set_option maxHeartbeats 8000000 in
set_option maxRecDepth 100000 in
theorem Gen_z0a (A0 : Option Addr) (c0 : Nat) (l : List Int) (S : ByteArray) (Y mo d h mi n a : Int) (c : Nat) (R4 R5 R6 : ByteArray) (w : World) (hr0 : Kd.C (Kd.int .u8) w A0 l.length l) (hS : S = strOfNums l) (x1 : dg4 S = true) (ev : Y = dv4 S) (z0 : dg2 (dr4 S) = true) (z1 : dg2 (dr2 (dr4 S)) = true) (z2 : dg2 (dr2 (dr2 (dr4 S))) = true) (z3 : dg2 (dr2 (dr2 (dr2 (dr4 S)))) = true) (e1 : mo = dv2 (dr4 S)) (e2 : d = dv2 (dr2 (dr4 S))) (e3 : h = dv2 (dr2 (dr2 (dr4 S)))) (e4 : mi = dv2 (dr2 (dr2 (dr2 (dr4 S))))) (e5 : R4 = dr2 (dr2 (dr2 (dr2 (dr4 S))))) (x3 : dateB Y mo d h mi = true) (x4 : dg2 R4 = true) (e6 : n = dv2 R4) (e7 : R5 = dr2 R4) (x5 : n < 60) (x8 : R5.size = 0) (x6 : zO R5 = false) :
    Calls Try.prog 85 #[.slice A0 l.length c0] w (PBad w) := by
  have bY := dv4_range x1
  rw [← ev] at bY
  have bn := dv2_range x4
  rw [← e6] at bn
  have X1' := Aside0.mk x1
  have EV' := Aside0.mk ev
  have Z0' := Aside0.mk z0
  have Z1' := Aside0.mk z1
  have Z2' := Aside0.mk z2
  have Z3' := Aside0.mk z3
  have E1' := Aside0.mk e1
  have E2' := Aside0.mk e2
  have E3' := Aside0.mk e3
  have E4' := Aside0.mk e4
  have E5' := Aside0.mk e5
  have X3' := Aside0.mk x3
  have X4' := Aside0.mk x4
  have E6' := Aside0.mk e6
  have E7' := Aside0.mk e7
  have X5' := Aside0.mk x5
  have X8' := Aside0.mk x8
  have X6' := Aside0.mk x6
  have t60 : decide (60 ≤ n) = false := decide_eq_false (by omega)
  have tz : decide (0 < (R5.size : Int)) = false := decide_eq_false (by omega)
  have tzn : decide (0 < R5.size) = false := decide_eq_false (by omega)
  have HR0 := Aside0.mk hr0
  have HS := Aside0.mk hS
  have HB0 := Aside0.mk (Below.refl w.heap.size w)
  clear hr0 hS x1 ev z0 z1 z2 z3 e1 e2 e3 e4 e5 x3 x4 e6 e7 x5 x8 x6
  go_enter Try.func85, Try.ntmps85
  go_wp2_with (first
    | ((with_reducible refine gate_dst (N := 2) rfl ?_); refine box_event ?hg (N := 2) ?hd (cs := #[.int .i64 0, .int .i64 0, .int .i64 0, .int .i64 0, .int .i64 0, .int .i64 0, .int .i64 0, .int .i64 0]) (t := 87) ?hr ?_; (case hd => rfl); (case hg => rfl); (case hr => first | (go_simp; done) | (go_simp; rfl)); intro g2 hg w1 hbox hb; have BR1 := Aside0.mk hbox; have HB1 := Aside0.mk (below_step HB0.out hb); have GR := Aside0.mk (show w.heap.size ≤ g2 by rw [hg]; exact Nat.le_refl _); clear hbox hb hg)
    | (go_at_call 97; (with_reducible refine (errors_New_any _ _).mono ?_); rintro e w2 ⟨T, x, rfl, hb⟩; have BR2 := Aside0.mk (blk_below BR1.out hb); have HB2 := Aside0.mk (below_step HB1.out hb); have hcv := Kd.C_string (P := Try.prog) (A := A0) (c := c0) Try.underlying25 Try.underlying5 Try.underlying9 (Kd.C_below HR0.out HB2.out); rw [← HS.out] at hcv; clear hb)
    | (go_at_call 98; (with_reducible refine (dig4_yes S _ X1'.out).mono ?_); rw [← EV'.out]; rintro e w3 ⟨rfl, ⟨n1, rfl⟩⟩; clear hcv)
    | (go_at_call 99; (with_reducible refine (zzDate_yes Y mo d h mi (dr4 S) _ Z0'.out Z1'.out Z2'.out Z3'.out E1'.out E2'.out E3'.out E4'.out).mono ?_); rw [X3'.out, ← E5'.out]; rintro e w3 ⟨rfl, hb⟩; have BR3 := Aside0.mk (blk_below (blk_drewN BR2.out n1) hb); have HB3 := Aside0.mk (below_step (pw_below_drewN HB2.out n1) hb); clear hb)
    | ((with_reducible refine gate_dst (N := 8) rfl ?_); refine box_event ?hg (N := 8) ?hd (cs := #[.int .i64 0, .int .i64 0, .int .i64 0, .int .i64 0, .int .i64 0, .int .i64 0, .int .i64 0, .int .i64 0]) (t := 87) ?hr ?_; (case hd => rfl); (case hg => rfl); (case hr => first | (go_simp; done) | (go_simp; rfl)); intro g8 hg w4 hbox hb; have BR4 := Aside0.mk (blk_below BR3.out hb); have HB4 := Aside0.mk (below_step HB3.out hb); have BT4 := Aside0.mk hbox; have GT := Aside0.mk (show w.heap.size ≤ g8 by rw [hg]; exact below_size HB3.out); have NE := Aside0.mk (show g2 ≠ g8 by rw [hg]; exact Nat.ne_of_lt (blk_lt BR3.out)); have ct0 := (blk_cell BT4.out 0).trans (show _ = some (.int .i64 0) from rfl); have ctf0 := blk_frozen BT4.out 0; have ct1 := (blk_cell BT4.out 1).trans (show _ = some (.int .i64 0) from rfl); have ctf1 := blk_frozen BT4.out 1; have ct2 := (blk_cell BT4.out 2).trans (show _ = some (.int .i64 0) from rfl); have ctf2 := blk_frozen BT4.out 2; have ct3 := (blk_cell BT4.out 3).trans (show _ = some (.int .i64 0) from rfl); have ctf3 := blk_frozen BT4.out 3; have ct4 := (blk_cell BT4.out 4).trans (show _ = some (.int .i64 0) from rfl); have ctf4 := blk_frozen BT4.out 4; have ct5 := (blk_cell BT4.out 5).trans (show _ = some (.int .i64 0) from rfl); have ctf5 := blk_frozen BT4.out 5; have ct6 := (blk_cell BT4.out 6).trans (show _ = some (.int .i64 0) from rfl); have ctf6 := blk_frozen BT4.out 6; have ct7 := (blk_cell BT4.out 7).trans (show _ = some (.int .i64 0) from rfl); have ctf7 := blk_frozen BT4.out 7; clear hbox hb hg)
    | ((with_reducible refine gate_store (t := 87) (p := 8) rfl ?_); refine store_event (t := 87) (p := 8) (v := ?vo8) (w1 := put8 (w4) g8 (.int .i64 Y) (.int .i64 mo) (.int .i64 d) (.int .i64 h) (.int .i64 mi) (.int .i64 0) (.int .i64 0) (.int .i64 0)) ?hg ?ho ?hn ?hr ?_; (case ho => rfl); (case hg => rfl); (case hn => rfl); (case hr => first | (go_simp; done) | (go_simp; rfl)); intro w5 hw; have BT5 := Aside0.mk (show w5.heap[g8]? = some (.cells #[.int .i64 Y, .int .i64 mo, .int .i64 d, .int .i64 h, .int .i64 mi, .int .i64 0, .int .i64 0, .int .i64 0] 87 (0, 0)) from by rw [hw]; exact put8_blk BT4.out (.int .i64 Y) (.int .i64 mo) (.int .i64 d) (.int .i64 h) (.int .i64 mi) (.int .i64 0) (.int .i64 0) (.int .i64 0)); have BR5 := Aside0.mk (show w5.heap[g2]? = some (.cells #[.int .i64 0, .int .i64 0, .int .i64 0, .int .i64 0, .int .i64 0, .int .i64 0, .int .i64 0, .int .i64 0] 87 (0, 0)) from by rw [hw]; exact blk_grown BR4.out (put8_grown w4 g8 (.int .i64 Y) (.int .i64 mo) (.int .i64 d) (.int .i64 h) (.int .i64 mi) (.int .i64 0) (.int .i64 0) (.int .i64 0)) (fun e => NE.out (by injection e))); have HB5 := Aside0.mk (show Below w.heap.size w w5 from by rw [hw]; exact HB4.out.grown (put8_grown w4 g8 (.int .i64 Y) (.int .i64 mo) (.int .i64 d) (.int .i64 h) (.int .i64 mi) (.int .i64 0) (.int .i64 0) (.int .i64 0)) (below_size HB4.out) (fun q hq => by cases hq; exact GT.out)); clear ct0 ctf0 ct1 ctf1 ct2 ctf2 ct3 ctf3 ct4 ctf4 ct5 ctf5 ct6 ctf6 ct7 ctf7; have ct0 := (blk_cell BT5.out 0).trans (show _ = some (.int .i64 Y) from rfl); have ctf0 := blk_frozen BT5.out 0; have ct1 := (blk_cell BT5.out 1).trans (show _ = some (.int .i64 mo) from rfl); have ctf1 := blk_frozen BT5.out 1; have ct2 := (blk_cell BT5.out 2).trans (show _ = some (.int .i64 d) from rfl); have ctf2 := blk_frozen BT5.out 2; have ct3 := (blk_cell BT5.out 3).trans (show _ = some (.int .i64 h) from rfl); have ctf3 := blk_frozen BT5.out 3; have ct4 := (blk_cell BT5.out 4).trans (show _ = some (.int .i64 mi) from rfl); have ctf4 := blk_frozen BT5.out 4; have ct5 := (blk_cell BT5.out 5).trans (show _ = some (.int .i64 0) from rfl); have ctf5 := blk_frozen BT5.out 5; have ct6 := (blk_cell BT5.out 6).trans (show _ = some (.int .i64 0) from rfl); have ctf6 := blk_frozen BT5.out 6; have ct7 := (blk_cell BT5.out 7).trans (show _ = some (.int .i64 0) from rfl); have ctf7 := blk_frozen BT5.out 7; have cr0 := (blk_cell BR5.out 0).trans (show _ = some (.int .i64 0) from rfl); have crf0 := blk_frozen BR5.out 0; have cr1 := (blk_cell BR5.out 1).trans (show _ = some (.int .i64 0) from rfl); have crf1 := blk_frozen BR5.out 1; have cr2 := (blk_cell BR5.out 2).trans (show _ = some (.int .i64 0) from rfl); have crf2 := blk_frozen BR5.out 2; have cr3 := (blk_cell BR5.out 3).trans (show _ = some (.int .i64 0) from rfl); have crf3 := blk_frozen BR5.out 3; have cr4 := (blk_cell BR5.out 4).trans (show _ = some (.int .i64 0) from rfl); have crf4 := blk_frozen BR5.out 4; have cr5 := (blk_cell BR5.out 5).trans (show _ = some (.int .i64 0) from rfl); have crf5 := blk_frozen BR5.out 5; have cr6 := (blk_cell BR5.out 6).trans (show _ = some (.int .i64 0) from rfl); have crf6 := blk_frozen BR5.out 6; have cr7 := (blk_cell BR5.out 7).trans (show _ = some (.int .i64 0) from rfl); have crf7 := blk_frozen BR5.out 7; clear hw)
    | (go_at_call 98; (with_reducible refine (dig2_yes R4 _ X4'.out).mono ?_); rw [← E6'.out, ← E7'.out]; rintro e wq ⟨rfl, ⟨n5, rfl⟩⟩)
    | ((with_reducible refine gate_store (t := 3) (p := 40) rfl ?_); refine store_event (t := 3) (p := 40) (v := ?vo40) (w1 := (w5.setCell ⟨g8, 5, none⟩ (.int .i64 n)).drewN n5) ?hg ?ho ?hn ?hr ?_; (case ho => rfl); (case hg => rfl); (case hn => rfl); (case hr => first | (go_simp; done) | (go_simp; rfl)); intro w6 hw; have BT6 := Aside0.mk (show w6.heap[g8]? = some (.cells #[.int .i64 Y, .int .i64 mo, .int .i64 d, .int .i64 h, .int .i64 mi, .int .i64 n, .int .i64 0, .int .i64 0] 87 (0, 0)) from by rw [hw]; exact blk_drewN (blk_put (cs := #[.int .i64 Y, .int .i64 mo, .int .i64 d, .int .i64 h, .int .i64 mi, .int .i64 0, .int .i64 0, .int .i64 0]) BT5.out 5 _ rfl) _); have BR6 := Aside0.mk (show w6.heap[g2]? = some (.cells #[.int .i64 0, .int .i64 0, .int .i64 0, .int .i64 0, .int .i64 0, .int .i64 0, .int .i64 0, .int .i64 0] 87 (0, 0)) from by rw [hw]; exact blk_drewN (blk_far BR5.out NE.out _) _); have HB6 := Aside0.mk (show Below w.heap.size w w6 from by rw [hw]; exact pw_below_drewN (below_set HB5.out GT.out) _); clear ct0 ctf0 ct1 ctf1 ct2 ctf2 ct3 ctf3 ct4 ctf4 ct5 ctf5 ct6 ctf6 ct7 ctf7; have ct0 := (blk_cell BT6.out 0).trans (show _ = some (.int .i64 Y) from rfl); have ctf0 := blk_frozen BT6.out 0; have ct1 := (blk_cell BT6.out 1).trans (show _ = some (.int .i64 mo) from rfl); have ctf1 := blk_frozen BT6.out 1; have ct2 := (blk_cell BT6.out 2).trans (show _ = some (.int .i64 d) from rfl); have ctf2 := blk_frozen BT6.out 2; have ct3 := (blk_cell BT6.out 3).trans (show _ = some (.int .i64 h) from rfl); have ctf3 := blk_frozen BT6.out 3; have ct4 := (blk_cell BT6.out 4).trans (show _ = some (.int .i64 mi) from rfl); have ctf4 := blk_frozen BT6.out 4; have ct5 := (blk_cell BT6.out 5).trans (show _ = some (.int .i64 n) from rfl); have ctf5 := blk_frozen BT6.out 5; have ct6 := (blk_cell BT6.out 6).trans (show _ = some (.int .i64 0) from rfl); have ctf6 := blk_frozen BT6.out 6; have ct7 := (blk_cell BT6.out 7).trans (show _ = some (.int .i64 0) from rfl); have ctf7 := blk_frozen BT6.out 7; clear cr0 crf0 cr1 crf1 cr2 crf2 cr3 crf3 cr4 crf4 cr5 crf5 cr6 crf6 cr7 crf7; have cr0 := (blk_cell BR6.out 0).trans (show _ = some (.int .i64 0) from rfl); have crf0 := blk_frozen BR6.out 0; have cr1 := (blk_cell BR6.out 1).trans (show _ = some (.int .i64 0) from rfl); have crf1 := blk_frozen BR6.out 1; have cr2 := (blk_cell BR6.out 2).trans (show _ = some (.int .i64 0) from rfl); have crf2 := blk_frozen BR6.out 2; have cr3 := (blk_cell BR6.out 3).trans (show _ = some (.int .i64 0) from rfl); have crf3 := blk_frozen BR6.out 3; have cr4 := (blk_cell BR6.out 4).trans (show _ = some (.int .i64 0) from rfl); have crf4 := blk_frozen BR6.out 4; have cr5 := (blk_cell BR6.out 5).trans (show _ = some (.int .i64 0) from rfl); have crf5 := blk_frozen BR6.out 5; have cr6 := (blk_cell BR6.out 6).trans (show _ = some (.int .i64 0) from rfl); have crf6 := blk_frozen BR6.out 6; have cr7 := (blk_cell BR6.out 7).trans (show _ = some (.int .i64 0) from rfl); have crf7 := blk_frozen BR6.out 7; clear hw)
    | (go_at_call 100; (with_reducible refine (zone2_any R5 _).mono ?_); rw [X6'.out]; rintro e wq ⟨rfl, ⟨n6, rfl⟩⟩)
    | ((with_reducible refine gate_store (t := 3) (p := 119) rfl ?_); refine store_event (t := 3) (p := 119) (v := ?vo119) (w1 := (w6.setCell ⟨g8, 7, none⟩ (.int .i64 (zV R5))).drewN n6) ?hg ?ho ?hn ?hr ?_; (case ho => rfl); (case hg => rfl); (case hn => rfl); (case hr => first | (go_simp; done) | (go_simp; rfl)); intro wZ hw; have BTZ := Aside0.mk (show wZ.heap[g8]? = some (.cells #[.int .i64 Y, .int .i64 mo, .int .i64 d, .int .i64 h, .int .i64 mi, .int .i64 n, .int .i64 0, .int .i64 (zV R5)] 87 (0, 0)) from by rw [hw]; exact blk_drewN (blk_put (cs := #[.int .i64 Y, .int .i64 mo, .int .i64 d, .int .i64 h, .int .i64 mi, .int .i64 n, .int .i64 0, .int .i64 0]) BT6.out 7 _ rfl) _); have BRZ := Aside0.mk (show wZ.heap[g2]? = some (.cells #[.int .i64 0, .int .i64 0, .int .i64 0, .int .i64 0, .int .i64 0, .int .i64 0, .int .i64 0, .int .i64 0] 87 (0, 0)) from by rw [hw]; exact blk_drewN (blk_far BR6.out NE.out _) _); have HBZ := Aside0.mk (show Below w.heap.size w wZ from by rw [hw]; exact pw_below_drewN (below_set HB6.out GT.out) _); clear ct0 ctf0 ct1 ctf1 ct2 ctf2 ct3 ctf3 ct4 ctf4 ct5 ctf5 ct6 ctf6 ct7 ctf7; have ct0 := (blk_cell BTZ.out 0).trans (show _ = some (.int .i64 Y) from rfl); have ctf0 := blk_frozen BTZ.out 0; have ct1 := (blk_cell BTZ.out 1).trans (show _ = some (.int .i64 mo) from rfl); have ctf1 := blk_frozen BTZ.out 1; have ct2 := (blk_cell BTZ.out 2).trans (show _ = some (.int .i64 d) from rfl); have ctf2 := blk_frozen BTZ.out 2; have ct3 := (blk_cell BTZ.out 3).trans (show _ = some (.int .i64 h) from rfl); have ctf3 := blk_frozen BTZ.out 3; have ct4 := (blk_cell BTZ.out 4).trans (show _ = some (.int .i64 mi) from rfl); have ctf4 := blk_frozen BTZ.out 4; have ct5 := (blk_cell BTZ.out 5).trans (show _ = some (.int .i64 n) from rfl); have ctf5 := blk_frozen BTZ.out 5; have ct6 := (blk_cell BTZ.out 6).trans (show _ = some (.int .i64 0) from rfl); have ctf6 := blk_frozen BTZ.out 6; have ct7 := (blk_cell BTZ.out 7).trans (show _ = some (.int .i64 (zV R5)) from rfl); have ctf7 := blk_frozen BTZ.out 7; clear cr0 crf0 cr1 crf1 cr2 crf2 cr3 crf3 cr4 crf4 cr5 crf5 cr6 crf6 cr7 crf7; have cr0 := (blk_cell BRZ.out 0).trans (show _ = some (.int .i64 0) from rfl); have crf0 := blk_frozen BRZ.out 0; have cr1 := (blk_cell BRZ.out 1).trans (show _ = some (.int .i64 0) from rfl); have crf1 := blk_frozen BRZ.out 1; have cr2 := (blk_cell BRZ.out 2).trans (show _ = some (.int .i64 0) from rfl); have crf2 := blk_frozen BRZ.out 2; have cr3 := (blk_cell BRZ.out 3).trans (show _ = some (.int .i64 0) from rfl); have crf3 := blk_frozen BRZ.out 3; have cr4 := (blk_cell BRZ.out 4).trans (show _ = some (.int .i64 0) from rfl); have crf4 := blk_frozen BRZ.out 4; have cr5 := (blk_cell BRZ.out 5).trans (show _ = some (.int .i64 0) from rfl); have crf5 := blk_frozen BRZ.out 5; have cr6 := (blk_cell BRZ.out 6).trans (show _ = some (.int .i64 0) from rfl); have crf6 := blk_frozen BRZ.out 6; have cr7 := (blk_cell BRZ.out 7).trans (show _ = some (.int .i64 0) from rfl); have crf7 := blk_frozen BRZ.out 7; clear hw)
    | ((with_reducible refine gate_store (t := 87) (p := 2) rfl ?_); refine store_event (t := 87) (p := 2) (v := ?vo2) (w1 := (put8 wZ g2 (.int .i64 0) (.int .i64 0) (.int .i64 0) (.int .i64 0) (.int .i64 0) (.int .i64 0) (.int .i64 0) (.int .i64 0))) ?hg ?ho ?hn ?hr ?_; (case ho => rfl); (case hg => rfl); (case hn => rfl); (case hr => first | (go_simp; done) | (go_simp; rfl)); intro w9 hw; have BX := Aside0.mk (show w9.heap[g2]? = some (.cells #[.int .i64 0, .int .i64 0, .int .i64 0, .int .i64 0, .int .i64 0, .int .i64 0, .int .i64 0, .int .i64 0] 87 (0, 0)) from by rw [hw]; exact put8_blk BRZ.out (.int .i64 0) (.int .i64 0) (.int .i64 0) (.int .i64 0) (.int .i64 0) (.int .i64 0) (.int .i64 0) (.int .i64 0)); have HX := Aside0.mk (show Below w.heap.size w w9 from by rw [hw]; exact HBZ.out.grown (put8_grown wZ g2 (.int .i64 0) (.int .i64 0) (.int .i64 0) (.int .i64 0) (.int .i64 0) (.int .i64 0) (.int .i64 0) (.int .i64 0)) (below_size HBZ.out) (fun q hq => by cases hq; exact GR.out)); clear hw))
  refine bodyPost_ret (results_ct rfl _ _ g2 87 #[.int .i64 0, .int .i64 0, .int .i64 0, .int .i64 0, .int .i64 0, .int .i64 0, .int .i64 0, .int .i64 0] (0, 0) _ rfl BX.out Try.underlying87 rfl (by kernel_rfl)) rfl ?_
  exact ⟨T, x, rfl, HX.out⟩
set_option maxHeartbeats 8000000 in
set_option maxRecDepth 100000 in
theorem Gen_z0b (A0 : Option Addr) (c0 : Nat) (l : List Int) (S : ByteArray) (Y mo d h mi n a : Int) (c : Nat) (R4 R5 R6 : ByteArray) (w : World) (hr0 : Kd.C (Kd.int .u8) w A0 l.length l) (hS : S = strOfNums l) (x1 : dg4 S = true) (ev : Y = dv4 S) (z0 : dg2 (dr4 S) = true) (z1 : dg2 (dr2 (dr4 S)) = true) (z2 : dg2 (dr2 (dr2 (dr4 S))) = true) (z3 : dg2 (dr2 (dr2 (dr2 (dr4 S)))) = true) (e1 : mo = dv2 (dr4 S)) (e2 : d = dv2 (dr2 (dr4 S))) (e3 : h = dv2 (dr2 (dr2 (dr4 S)))) (e4 : mi = dv2 (dr2 (dr2 (dr2 (dr4 S))))) (e5 : R4 = dr2 (dr2 (dr2 (dr2 (dr4 S))))) (x3 : dateB Y mo d h mi = true) (x4 : dg2 R4 = true) (e6 : n = dv2 R4) (e7 : R5 = dr2 R4) (x5 : n < 60) (x8 : 0 < R5.size) (x9 : bt R5 0 ≠ 46) (x6 : zO R5 = false) :
    Calls Try.prog 85 #[.slice A0 l.length c0] w (PBad w) := by
  have bY := dv4_range x1
  rw [← ev] at bY
  have bn := dv2_range x4
  rw [← e6] at bn
  have X1' := Aside0.mk x1
  have EV' := Aside0.mk ev
  have Z0' := Aside0.mk z0
  have Z1' := Aside0.mk z1
  have Z2' := Aside0.mk z2
  have Z3' := Aside0.mk z3
  have E1' := Aside0.mk e1
  have E2' := Aside0.mk e2
  have E3' := Aside0.mk e3
  have E4' := Aside0.mk e4
  have E5' := Aside0.mk e5
  have X3' := Aside0.mk x3
  have X4' := Aside0.mk x4
  have E6' := Aside0.mk e6
  have E7' := Aside0.mk e7
  have X5' := Aside0.mk x5
  have X8' := Aside0.mk x8
  have X9' := Aside0.mk x9
  have X6' := Aside0.mk x6
  have t60 : decide (60 ≤ n) = false := decide_eq_false (by omega)
  have tz : decide (0 < (R5.size : Int)) = true := decide_eq_true (by omega)
  have tzn : decide (0 < R5.size) = true := decide_eq_true (by omega)
  have tq : ((0 : Int) < (R5.size : Int)) = True := eq_true (by omega)
  have tqn : (0 < R5.size) = True := eq_true (by omega)
  have hx0 : ∀ h : 0 < R5.size, ((R5[0]'h).toNat : Int) = bt R5 0 := bt_at R5 0
  have t46 : (bt R5 0 == 46) = false := beq_eq_false_iff_ne.mpr x9
  have HR0 := Aside0.mk hr0
  have HS := Aside0.mk hS
  have HB0 := Aside0.mk (Below.refl w.heap.size w)
  clear hr0 hS x1 ev z0 z1 z2 z3 e1 e2 e3 e4 e5 x3 x4 e6 e7 x5 x8 x9 x6
  go_enter Try.func85, Try.ntmps85
  go_wp2_with (first
    | ((with_reducible refine gate_dst (N := 2) rfl ?_); refine box_event ?hg (N := 2) ?hd (cs := #[.int .i64 0, .int .i64 0, .int .i64 0, .int .i64 0, .int .i64 0, .int .i64 0, .int .i64 0, .int .i64 0]) (t := 87) ?hr ?_; (case hd => rfl); (case hg => rfl); (case hr => first | (go_simp; done) | (go_simp; rfl)); intro g2 hg w1 hbox hb; have BR1 := Aside0.mk hbox; have HB1 := Aside0.mk (below_step HB0.out hb); have GR := Aside0.mk (show w.heap.size ≤ g2 by rw [hg]; exact Nat.le_refl _); clear hbox hb hg)
    | (go_at_call 97; (with_reducible refine (errors_New_any _ _).mono ?_); rintro e w2 ⟨T, x, rfl, hb⟩; have BR2 := Aside0.mk (blk_below BR1.out hb); have HB2 := Aside0.mk (below_step HB1.out hb); have hcv := Kd.C_string (P := Try.prog) (A := A0) (c := c0) Try.underlying25 Try.underlying5 Try.underlying9 (Kd.C_below HR0.out HB2.out); rw [← HS.out] at hcv; clear hb)
    | (go_at_call 98; (with_reducible refine (dig4_yes S _ X1'.out).mono ?_); rw [← EV'.out]; rintro e w3 ⟨rfl, ⟨n1, rfl⟩⟩; clear hcv)
    | (go_at_call 99; (with_reducible refine (zzDate_yes Y mo d h mi (dr4 S) _ Z0'.out Z1'.out Z2'.out Z3'.out E1'.out E2'.out E3'.out E4'.out).mono ?_); rw [X3'.out, ← E5'.out]; rintro e w3 ⟨rfl, hb⟩; have BR3 := Aside0.mk (blk_below (blk_drewN BR2.out n1) hb); have HB3 := Aside0.mk (below_step (pw_below_drewN HB2.out n1) hb); clear hb)
    | ((with_reducible refine gate_dst (N := 8) rfl ?_); refine box_event ?hg (N := 8) ?hd (cs := #[.int .i64 0, .int .i64 0, .int .i64 0, .int .i64 0, .int .i64 0, .int .i64 0, .int .i64 0, .int .i64 0]) (t := 87) ?hr ?_; (case hd => rfl); (case hg => rfl); (case hr => first | (go_simp; done) | (go_simp; rfl)); intro g8 hg w4 hbox hb; have BR4 := Aside0.mk (blk_below BR3.out hb); have HB4 := Aside0.mk (below_step HB3.out hb); have BT4 := Aside0.mk hbox; have GT := Aside0.mk (show w.heap.size ≤ g8 by rw [hg]; exact below_size HB3.out); have NE := Aside0.mk (show g2 ≠ g8 by rw [hg]; exact Nat.ne_of_lt (blk_lt BR3.out)); have ct0 := (blk_cell BT4.out 0).trans (show _ = some (.int .i64 0) from rfl); have ctf0 := blk_frozen BT4.out 0; have ct1 := (blk_cell BT4.out 1).trans (show _ = some (.int .i64 0) from rfl); have ctf1 := blk_frozen BT4.out 1; have ct2 := (blk_cell BT4.out 2).trans (show _ = some (.int .i64 0) from rfl); have ctf2 := blk_frozen BT4.out 2; have ct3 := (blk_cell BT4.out 3).trans (show _ = some (.int .i64 0) from rfl); have ctf3 := blk_frozen BT4.out 3; have ct4 := (blk_cell BT4.out 4).trans (show _ = some (.int .i64 0) from rfl); have ctf4 := blk_frozen BT4.out 4; have ct5 := (blk_cell BT4.out 5).trans (show _ = some (.int .i64 0) from rfl); have ctf5 := blk_frozen BT4.out 5; have ct6 := (blk_cell BT4.out 6).trans (show _ = some (.int .i64 0) from rfl); have ctf6 := blk_frozen BT4.out 6; have ct7 := (blk_cell BT4.out 7).trans (show _ = some (.int .i64 0) from rfl); have ctf7 := blk_frozen BT4.out 7; clear hbox hb hg)
    | ((with_reducible refine gate_store (t := 87) (p := 8) rfl ?_); refine store_event (t := 87) (p := 8) (v := ?vo8) (w1 := put8 (w4) g8 (.int .i64 Y) (.int .i64 mo) (.int .i64 d) (.int .i64 h) (.int .i64 mi) (.int .i64 0) (.int .i64 0) (.int .i64 0)) ?hg ?ho ?hn ?hr ?_; (case ho => rfl); (case hg => rfl); (case hn => rfl); (case hr => first | (go_simp; done) | (go_simp; rfl)); intro w5 hw; have BT5 := Aside0.mk (show w5.heap[g8]? = some (.cells #[.int .i64 Y, .int .i64 mo, .int .i64 d, .int .i64 h, .int .i64 mi, .int .i64 0, .int .i64 0, .int .i64 0] 87 (0, 0)) from by rw [hw]; exact put8_blk BT4.out (.int .i64 Y) (.int .i64 mo) (.int .i64 d) (.int .i64 h) (.int .i64 mi) (.int .i64 0) (.int .i64 0) (.int .i64 0)); have BR5 := Aside0.mk (show w5.heap[g2]? = some (.cells #[.int .i64 0, .int .i64 0, .int .i64 0, .int .i64 0, .int .i64 0, .int .i64 0, .int .i64 0, .int .i64 0] 87 (0, 0)) from by rw [hw]; exact blk_grown BR4.out (put8_grown w4 g8 (.int .i64 Y) (.int .i64 mo) (.int .i64 d) (.int .i64 h) (.int .i64 mi) (.int .i64 0) (.int .i64 0) (.int .i64 0)) (fun e => NE.out (by injection e))); have HB5 := Aside0.mk (show Below w.heap.size w w5 from by rw [hw]; exact HB4.out.grown (put8_grown w4 g8 (.int .i64 Y) (.int .i64 mo) (.int .i64 d) (.int .i64 h) (.int .i64 mi) (.int .i64 0) (.int .i64 0) (.int .i64 0)) (below_size HB4.out) (fun q hq => by cases hq; exact GT.out)); clear ct0 ctf0 ct1 ctf1 ct2 ctf2 ct3 ctf3 ct4 ctf4 ct5 ctf5 ct6 ctf6 ct7 ctf7; have ct0 := (blk_cell BT5.out 0).trans (show _ = some (.int .i64 Y) from rfl); have ctf0 := blk_frozen BT5.out 0; have ct1 := (blk_cell BT5.out 1).trans (show _ = some (.int .i64 mo) from rfl); have ctf1 := blk_frozen BT5.out 1; have ct2 := (blk_cell BT5.out 2).trans (show _ = some (.int .i64 d) from rfl); have ctf2 := blk_frozen BT5.out 2; have ct3 := (blk_cell BT5.out 3).trans (show _ = some (.int .i64 h) from rfl); have ctf3 := blk_frozen BT5.out 3; have ct4 := (blk_cell BT5.out 4).trans (show _ = some (.int .i64 mi) from rfl); have ctf4 := blk_frozen BT5.out 4; have ct5 := (blk_cell BT5.out 5).trans (show _ = some (.int .i64 0) from rfl); have ctf5 := blk_frozen BT5.out 5; have ct6 := (blk_cell BT5.out 6).trans (show _ = some (.int .i64 0) from rfl); have ctf6 := blk_frozen BT5.out 6; have ct7 := (blk_cell BT5.out 7).trans (show _ = some (.int .i64 0) from rfl); have ctf7 := blk_frozen BT5.out 7; have cr0 := (blk_cell BR5.out 0).trans (show _ = some (.int .i64 0) from rfl); have crf0 := blk_frozen BR5.out 0; have cr1 := (blk_cell BR5.out 1).trans (show _ = some (.int .i64 0) from rfl); have crf1 := blk_frozen BR5.out 1; have cr2 := (blk_cell BR5.out 2).trans (show _ = some (.int .i64 0) from rfl); have crf2 := blk_frozen BR5.out 2; have cr3 := (blk_cell BR5.out 3).trans (show _ = some (.int .i64 0) from rfl); have crf3 := blk_frozen BR5.out 3; have cr4 := (blk_cell BR5.out 4).trans (show _ = some (.int .i64 0) from rfl); have crf4 := blk_frozen BR5.out 4; have cr5 := (blk_cell BR5.out 5).trans (show _ = some (.int .i64 0) from rfl); have crf5 := blk_frozen BR5.out 5; have cr6 := (blk_cell BR5.out 6).trans (show _ = some (.int .i64 0) from rfl); have crf6 := blk_frozen BR5.out 6; have cr7 := (blk_cell BR5.out 7).trans (show _ = some (.int .i64 0) from rfl); have crf7 := blk_frozen BR5.out 7; clear hw)
    | (go_at_call 98; (with_reducible refine (dig2_yes R4 _ X4'.out).mono ?_); rw [← E6'.out, ← E7'.out]; rintro e wq ⟨rfl, ⟨n5, rfl⟩⟩)
    | ((with_reducible refine gate_store (t := 3) (p := 40) rfl ?_); refine store_event (t := 3) (p := 40) (v := ?vo40) (w1 := (w5.setCell ⟨g8, 5, none⟩ (.int .i64 n)).drewN n5) ?hg ?ho ?hn ?hr ?_; (case ho => rfl); (case hg => rfl); (case hn => rfl); (case hr => first | (go_simp; done) | (go_simp; rfl)); intro w6 hw; have BT6 := Aside0.mk (show w6.heap[g8]? = some (.cells #[.int .i64 Y, .int .i64 mo, .int .i64 d, .int .i64 h, .int .i64 mi, .int .i64 n, .int .i64 0, .int .i64 0] 87 (0, 0)) from by rw [hw]; exact blk_drewN (blk_put (cs := #[.int .i64 Y, .int .i64 mo, .int .i64 d, .int .i64 h, .int .i64 mi, .int .i64 0, .int .i64 0, .int .i64 0]) BT5.out 5 _ rfl) _); have BR6 := Aside0.mk (show w6.heap[g2]? = some (.cells #[.int .i64 0, .int .i64 0, .int .i64 0, .int .i64 0, .int .i64 0, .int .i64 0, .int .i64 0, .int .i64 0] 87 (0, 0)) from by rw [hw]; exact blk_drewN (blk_far BR5.out NE.out _) _); have HB6 := Aside0.mk (show Below w.heap.size w w6 from by rw [hw]; exact pw_below_drewN (below_set HB5.out GT.out) _); clear ct0 ctf0 ct1 ctf1 ct2 ctf2 ct3 ctf3 ct4 ctf4 ct5 ctf5 ct6 ctf6 ct7 ctf7; have ct0 := (blk_cell BT6.out 0).trans (show _ = some (.int .i64 Y) from rfl); have ctf0 := blk_frozen BT6.out 0; have ct1 := (blk_cell BT6.out 1).trans (show _ = some (.int .i64 mo) from rfl); have ctf1 := blk_frozen BT6.out 1; have ct2 := (blk_cell BT6.out 2).trans (show _ = some (.int .i64 d) from rfl); have ctf2 := blk_frozen BT6.out 2; have ct3 := (blk_cell BT6.out 3).trans (show _ = some (.int .i64 h) from rfl); have ctf3 := blk_frozen BT6.out 3; have ct4 := (blk_cell BT6.out 4).trans (show _ = some (.int .i64 mi) from rfl); have ctf4 := blk_frozen BT6.out 4; have ct5 := (blk_cell BT6.out 5).trans (show _ = some (.int .i64 n) from rfl); have ctf5 := blk_frozen BT6.out 5; have ct6 := (blk_cell BT6.out 6).trans (show _ = some (.int .i64 0) from rfl); have ctf6 := blk_frozen BT6.out 6; have ct7 := (blk_cell BT6.out 7).trans (show _ = some (.int .i64 0) from rfl); have ctf7 := blk_frozen BT6.out 7; clear cr0 crf0 cr1 crf1 cr2 crf2 cr3 crf3 cr4 crf4 cr5 crf5 cr6 crf6 cr7 crf7; have cr0 := (blk_cell BR6.out 0).trans (show _ = some (.int .i64 0) from rfl); have crf0 := blk_frozen BR6.out 0; have cr1 := (blk_cell BR6.out 1).trans (show _ = some (.int .i64 0) from rfl); have crf1 := blk_frozen BR6.out 1; have cr2 := (blk_cell BR6.out 2).trans (show _ = some (.int .i64 0) from rfl); have crf2 := blk_frozen BR6.out 2; have cr3 := (blk_cell BR6.out 3).trans (show _ = some (.int .i64 0) from rfl); have crf3 := blk_frozen BR6.out 3; have cr4 := (blk_cell BR6.out 4).trans (show _ = some (.int .i64 0) from rfl); have crf4 := blk_frozen BR6.out 4; have cr5 := (blk_cell BR6.out 5).trans (show _ = some (.int .i64 0) from rfl); have crf5 := blk_frozen BR6.out 5; have cr6 := (blk_cell BR6.out 6).trans (show _ = some (.int .i64 0) from rfl); have crf6 := blk_frozen BR6.out 6; have cr7 := (blk_cell BR6.out 7).trans (show _ = some (.int .i64 0) from rfl); have crf7 := blk_frozen BR6.out 7; clear hw)
    | (go_at_call 100; (with_reducible refine (zone2_any R5 _).mono ?_); rw [X6'.out]; rintro e wq ⟨rfl, ⟨n6, rfl⟩⟩)
    | ((with_reducible refine gate_store (t := 3) (p := 119) rfl ?_); refine store_event (t := 3) (p := 119) (v := ?vo119) (w1 := (w6.setCell ⟨g8, 7, none⟩ (.int .i64 (zV R5))).drewN n6) ?hg ?ho ?hn ?hr ?_; (case ho => rfl); (case hg => rfl); (case hn => rfl); (case hr => first | (go_simp; done) | (go_simp; rfl)); intro wZ hw; have BTZ := Aside0.mk (show wZ.heap[g8]? = some (.cells #[.int .i64 Y, .int .i64 mo, .int .i64 d, .int .i64 h, .int .i64 mi, .int .i64 n, .int .i64 0, .int .i64 (zV R5)] 87 (0, 0)) from by rw [hw]; exact blk_drewN (blk_put (cs := #[.int .i64 Y, .int .i64 mo, .int .i64 d, .int .i64 h, .int .i64 mi, .int .i64 n, .int .i64 0, .int .i64 0]) BT6.out 7 _ rfl) _); have BRZ := Aside0.mk (show wZ.heap[g2]? = some (.cells #[.int .i64 0, .int .i64 0, .int .i64 0, .int .i64 0, .int .i64 0, .int .i64 0, .int .i64 0, .int .i64 0] 87 (0, 0)) from by rw [hw]; exact blk_drewN (blk_far BR6.out NE.out _) _); have HBZ := Aside0.mk (show Below w.heap.size w wZ from by rw [hw]; exact pw_below_drewN (below_set HB6.out GT.out) _); clear ct0 ctf0 ct1 ctf1 ct2 ctf2 ct3 ctf3 ct4 ctf4 ct5 ctf5 ct6 ctf6 ct7 ctf7; have ct0 := (blk_cell BTZ.out 0).trans (show _ = some (.int .i64 Y) from rfl); have ctf0 := blk_frozen BTZ.out 0; have ct1 := (blk_cell BTZ.out 1).trans (show _ = some (.int .i64 mo) from rfl); have ctf1 := blk_frozen BTZ.out 1; have ct2 := (blk_cell BTZ.out 2).trans (show _ = some (.int .i64 d) from rfl); have ctf2 := blk_frozen BTZ.out 2; have ct3 := (blk_cell BTZ.out 3).trans (show _ = some (.int .i64 h) from rfl); have ctf3 := blk_frozen BTZ.out 3; have ct4 := (blk_cell BTZ.out 4).trans (show _ = some (.int .i64 mi) from rfl); have ctf4 := blk_frozen BTZ.out 4; have ct5 := (blk_cell BTZ.out 5).trans (show _ = some (.int .i64 n) from rfl); have ctf5 := blk_frozen BTZ.out 5; have ct6 := (blk_cell BTZ.out 6).trans (show _ = some (.int .i64 0) from rfl); have ctf6 := blk_frozen BTZ.out 6; have ct7 := (blk_cell BTZ.out 7).trans (show _ = some (.int .i64 (zV R5)) from rfl); have ctf7 := blk_frozen BTZ.out 7; clear cr0 crf0 cr1 crf1 cr2 crf2 cr3 crf3 cr4 crf4 cr5 crf5 cr6 crf6 cr7 crf7; have cr0 := (blk_cell BRZ.out 0).trans (show _ = some (.int .i64 0) from rfl); have crf0 := blk_frozen BRZ.out 0; have cr1 := (blk_cell BRZ.out 1).trans (show _ = some (.int .i64 0) from rfl); have crf1 := blk_frozen BRZ.out 1; have cr2 := (blk_cell BRZ.out 2).trans (show _ = some (.int .i64 0) from rfl); have crf2 := blk_frozen BRZ.out 2; have cr3 := (blk_cell BRZ.out 3).trans (show _ = some (.int .i64 0) from rfl); have crf3 := blk_frozen BRZ.out 3; have cr4 := (blk_cell BRZ.out 4).trans (show _ = some (.int .i64 0) from rfl); have crf4 := blk_frozen BRZ.out 4; have cr5 := (blk_cell BRZ.out 5).trans (show _ = some (.int .i64 0) from rfl); have crf5 := blk_frozen BRZ.out 5; have cr6 := (blk_cell BRZ.out 6).trans (show _ = some (.int .i64 0) from rfl); have crf6 := blk_frozen BRZ.out 6; have cr7 := (blk_cell BRZ.out 7).trans (show _ = some (.int .i64 0) from rfl); have crf7 := blk_frozen BRZ.out 7; clear hw)
    | ((with_reducible refine gate_store (t := 87) (p := 2) rfl ?_); refine store_event (t := 87) (p := 2) (v := ?vo2) (w1 := (put8 wZ g2 (.int .i64 0) (.int .i64 0) (.int .i64 0) (.int .i64 0) (.int .i64 0) (.int .i64 0) (.int .i64 0) (.int .i64 0))) ?hg ?ho ?hn ?hr ?_; (case ho => rfl); (case hg => rfl); (case hn => rfl); (case hr => first | (go_simp; done) | (go_simp; rfl)); intro w9 hw; have BX := Aside0.mk (show w9.heap[g2]? = some (.cells #[.int .i64 0, .int .i64 0, .int .i64 0, .int .i64 0, .int .i64 0, .int .i64 0, .int .i64 0, .int .i64 0] 87 (0, 0)) from by rw [hw]; exact put8_blk BRZ.out (.int .i64 0) (.int .i64 0) (.int .i64 0) (.int .i64 0) (.int .i64 0) (.int .i64 0) (.int .i64 0) (.int .i64 0)); have HX := Aside0.mk (show Below w.heap.size w w9 from by rw [hw]; exact HBZ.out.grown (put8_grown wZ g2 (.int .i64 0) (.int .i64 0) (.int .i64 0) (.int .i64 0) (.int .i64 0) (.int .i64 0) (.int .i64 0) (.int .i64 0)) (below_size HBZ.out) (fun q hq => by cases hq; exact GR.out)); clear hw))
  refine bodyPost_ret (results_ct rfl _ _ g2 87 #[.int .i64 0, .int .i64 0, .int .i64 0, .int .i64 0, .int .i64 0, .int .i64 0, .int .i64 0, .int .i64 0] (0, 0) _ rfl BX.out Try.underlying87 rfl (by kernel_rfl)) rfl ?_
  exact ⟨T, x, rfl, HX.out⟩
set_option maxHeartbeats 8000000 in
set_option maxRecDepth 100000 in
theorem Gen_g0a (A0 : Option Addr) (c0 : Nat) (l : List Int) (S : ByteArray) (Y mo d h mi n a : Int) (c : Nat) (R4 R5 R6 : ByteArray) (w : World) (hr0 : Kd.C (Kd.int .u8) w A0 l.length l) (hS : S = strOfNums l) (x1 : dg4 S = true) (ev : Y = dv4 S) (z0 : dg2 (dr4 S) = true) (z1 : dg2 (dr2 (dr4 S)) = true) (z2 : dg2 (dr2 (dr2 (dr4 S))) = true) (z3 : dg2 (dr2 (dr2 (dr2 (dr4 S)))) = true) (e1 : mo = dv2 (dr4 S)) (e2 : d = dv2 (dr2 (dr4 S))) (e3 : h = dv2 (dr2 (dr2 (dr4 S)))) (e4 : mi = dv2 (dr2 (dr2 (dr2 (dr4 S))))) (e5 : R4 = dr2 (dr2 (dr2 (dr2 (dr4 S))))) (x3 : dateB Y mo d h mi = true) (x4 : dg2 R4 = true) (e6 : n = dv2 R4) (e7 : R5 = dr2 R4) (x5 : n < 60) (x8 : R5.size = 0) (x6 : zO R5 = true) (e8 : a = zV R5) :
    Calls Try.prog 85 #[.slice A0 l.length c0] w (PGood w Y mo d h mi n (0) a) := by
  have bY := dv4_range x1
  rw [← ev] at bY
  have bn := dv2_range x4
  rw [← e6] at bn
  have X1' := Aside0.mk x1
  have EV' := Aside0.mk ev
  have Z0' := Aside0.mk z0
  have Z1' := Aside0.mk z1
  have Z2' := Aside0.mk z2
  have Z3' := Aside0.mk z3
  have E1' := Aside0.mk e1
  have E2' := Aside0.mk e2
  have E3' := Aside0.mk e3
  have E4' := Aside0.mk e4
  have E5' := Aside0.mk e5
  have X3' := Aside0.mk x3
  have X4' := Aside0.mk x4
  have E6' := Aside0.mk e6
  have E7' := Aside0.mk e7
  have X5' := Aside0.mk x5
  have X8' := Aside0.mk x8
  have X6' := Aside0.mk x6
  have E8' := Aside0.mk e8
  have t60 : decide (60 ≤ n) = false := decide_eq_false (by omega)
  have tz : decide (0 < (R5.size : Int)) = false := decide_eq_false (by omega)
  have tzn : decide (0 < R5.size) = false := decide_eq_false (by omega)
  have HR0 := Aside0.mk hr0
  have HS := Aside0.mk hS
  have HB0 := Aside0.mk (Below.refl w.heap.size w)
  clear hr0 hS x1 ev z0 z1 z2 z3 e1 e2 e3 e4 e5 x3 x4 e6 e7 x5 x8 x6 e8
  go_enter Try.func85, Try.ntmps85
  go_wp2_with (first
    | ((with_reducible refine gate_dst (N := 2) rfl ?_); refine box_event ?hg (N := 2) ?hd (cs := #[.int .i64 0, .int .i64 0, .int .i64 0, .int .i64 0, .int .i64 0, .int .i64 0, .int .i64 0, .int .i64 0]) (t := 87) ?hr ?_; (case hd => rfl); (case hg => rfl); (case hr => first | (go_simp; done) | (go_simp; rfl)); intro g2 hg w1 hbox hb; have BR1 := Aside0.mk hbox; have HB1 := Aside0.mk (below_step HB0.out hb); have GR := Aside0.mk (show w.heap.size ≤ g2 by rw [hg]; exact Nat.le_refl _); clear hbox hb hg)
    | (go_at_call 97; (with_reducible refine (errors_New_any _ _).mono ?_); rintro e w2 ⟨T, x, rfl, hb⟩; have BR2 := Aside0.mk (blk_below BR1.out hb); have HB2 := Aside0.mk (below_step HB1.out hb); have hcv := Kd.C_string (P := Try.prog) (A := A0) (c := c0) Try.underlying25 Try.underlying5 Try.underlying9 (Kd.C_below HR0.out HB2.out); rw [← HS.out] at hcv; clear hb)
    | (go_at_call 98; (with_reducible refine (dig4_yes S _ X1'.out).mono ?_); rw [← EV'.out]; rintro e w3 ⟨rfl, ⟨n1, rfl⟩⟩; clear hcv)
    | (go_at_call 99; (with_reducible refine (zzDate_yes Y mo d h mi (dr4 S) _ Z0'.out Z1'.out Z2'.out Z3'.out E1'.out E2'.out E3'.out E4'.out).mono ?_); rw [X3'.out, ← E5'.out]; rintro e w3 ⟨rfl, hb⟩; have BR3 := Aside0.mk (blk_below (blk_drewN BR2.out n1) hb); have HB3 := Aside0.mk (below_step (pw_below_drewN HB2.out n1) hb); clear hb)
    | ((with_reducible refine gate_dst (N := 8) rfl ?_); refine box_event ?hg (N := 8) ?hd (cs := #[.int .i64 0, .int .i64 0, .int .i64 0, .int .i64 0, .int .i64 0, .int .i64 0, .int .i64 0, .int .i64 0]) (t := 87) ?hr ?_; (case hd => rfl); (case hg => rfl); (case hr => first | (go_simp; done) | (go_simp; rfl)); intro g8 hg w4 hbox hb; have BR4 := Aside0.mk (blk_below BR3.out hb); have HB4 := Aside0.mk (below_step HB3.out hb); have BT4 := Aside0.mk hbox; have GT := Aside0.mk (show w.heap.size ≤ g8 by rw [hg]; exact below_size HB3.out); have NE := Aside0.mk (show g2 ≠ g8 by rw [hg]; exact Nat.ne_of_lt (blk_lt BR3.out)); have ct0 := (blk_cell BT4.out 0).trans (show _ = some (.int .i64 0) from rfl); have ctf0 := blk_frozen BT4.out 0; have ct1 := (blk_cell BT4.out 1).trans (show _ = some (.int .i64 0) from rfl); have ctf1 := blk_frozen BT4.out 1; have ct2 := (blk_cell BT4.out 2).trans (show _ = some (.int .i64 0) from rfl); have ctf2 := blk_frozen BT4.out 2; have ct3 := (blk_cell BT4.out 3).trans (show _ = some (.int .i64 0) from rfl); have ctf3 := blk_frozen BT4.out 3; have ct4 := (blk_cell BT4.out 4).trans (show _ = some (.int .i64 0) from rfl); have ctf4 := blk_frozen BT4.out 4; have ct5 := (blk_cell BT4.out 5).trans (show _ = some (.int .i64 0) from rfl); have ctf5 := blk_frozen BT4.out 5; have ct6 := (blk_cell BT4.out 6).trans (show _ = some (.int .i64 0) from rfl); have ctf6 := blk_frozen BT4.out 6; have ct7 := (blk_cell BT4.out 7).trans (show _ = some (.int .i64 0) from rfl); have ctf7 := blk_frozen BT4.out 7; clear hbox hb hg)
    | ((with_reducible refine gate_store (t := 87) (p := 8) rfl ?_); refine store_event (t := 87) (p := 8) (v := ?vo8) (w1 := put8 (w4) g8 (.int .i64 Y) (.int .i64 mo) (.int .i64 d) (.int .i64 h) (.int .i64 mi) (.int .i64 0) (.int .i64 0) (.int .i64 0)) ?hg ?ho ?hn ?hr ?_; (case ho => rfl); (case hg => rfl); (case hn => rfl); (case hr => first | (go_simp; done) | (go_simp; rfl)); intro w5 hw; have BT5 := Aside0.mk (show w5.heap[g8]? = some (.cells #[.int .i64 Y, .int .i64 mo, .int .i64 d, .int .i64 h, .int .i64 mi, .int .i64 0, .int .i64 0, .int .i64 0] 87 (0, 0)) from by rw [hw]; exact put8_blk BT4.out (.int .i64 Y) (.int .i64 mo) (.int .i64 d) (.int .i64 h) (.int .i64 mi) (.int .i64 0) (.int .i64 0) (.int .i64 0)); have BR5 := Aside0.mk (show w5.heap[g2]? = some (.cells #[.int .i64 0, .int .i64 0, .int .i64 0, .int .i64 0, .int .i64 0, .int .i64 0, .int .i64 0, .int .i64 0] 87 (0, 0)) from by rw [hw]; exact blk_grown BR4.out (put8_grown w4 g8 (.int .i64 Y) (.int .i64 mo) (.int .i64 d) (.int .i64 h) (.int .i64 mi) (.int .i64 0) (.int .i64 0) (.int .i64 0)) (fun e => NE.out (by injection e))); have HB5 := Aside0.mk (show Below w.heap.size w w5 from by rw [hw]; exact HB4.out.grown (put8_grown w4 g8 (.int .i64 Y) (.int .i64 mo) (.int .i64 d) (.int .i64 h) (.int .i64 mi) (.int .i64 0) (.int .i64 0) (.int .i64 0)) (below_size HB4.out) (fun q hq => by cases hq; exact GT.out)); clear ct0 ctf0 ct1 ctf1 ct2 ctf2 ct3 ctf3 ct4 ctf4 ct5 ctf5 ct6 ctf6 ct7 ctf7; have ct0 := (blk_cell BT5.out 0).trans (show _ = some (.int .i64 Y) from rfl); have ctf0 := blk_frozen BT5.out 0; have ct1 := (blk_cell BT5.out 1).trans (show _ = some (.int .i64 mo) from rfl); have ctf1 := blk_frozen BT5.out 1; have ct2 := (blk_cell BT5.out 2).trans (show _ = some (.int .i64 d) from rfl); have ctf2 := blk_frozen BT5.out 2; have ct3 := (blk_cell BT5.out 3).trans (show _ = some (.int .i64 h) from rfl); have ctf3 := blk_frozen BT5.out 3; have ct4 := (blk_cell BT5.out 4).trans (show _ = some (.int .i64 mi) from rfl); have ctf4 := blk_frozen BT5.out 4; have ct5 := (blk_cell BT5.out 5).trans (show _ = some (.int .i64 0) from rfl); have ctf5 := blk_frozen BT5.out 5; have ct6 := (blk_cell BT5.out 6).trans (show _ = some (.int .i64 0) from rfl); have ctf6 := blk_frozen BT5.out 6; have ct7 := (blk_cell BT5.out 7).trans (show _ = some (.int .i64 0) from rfl); have ctf7 := blk_frozen BT5.out 7; have cr0 := (blk_cell BR5.out 0).trans (show _ = some (.int .i64 0) from rfl); have crf0 := blk_frozen BR5.out 0; have cr1 := (blk_cell BR5.out 1).trans (show _ = some (.int .i64 0) from rfl); have crf1 := blk_frozen BR5.out 1; have cr2 := (blk_cell BR5.out 2).trans (show _ = some (.int .i64 0) from rfl); have crf2 := blk_frozen BR5.out 2; have cr3 := (blk_cell BR5.out 3).trans (show _ = some (.int .i64 0) from rfl); have crf3 := blk_frozen BR5.out 3; have cr4 := (blk_cell BR5.out 4).trans (show _ = some (.int .i64 0) from rfl); have crf4 := blk_frozen BR5.out 4; have cr5 := (blk_cell BR5.out 5).trans (show _ = some (.int .i64 0) from rfl); have crf5 := blk_frozen BR5.out 5; have cr6 := (blk_cell BR5.out 6).trans (show _ = some (.int .i64 0) from rfl); have crf6 := blk_frozen BR5.out 6; have cr7 := (blk_cell BR5.out 7).trans (show _ = some (.int .i64 0) from rfl); have crf7 := blk_frozen BR5.out 7; clear hw)
    | (go_at_call 98; (with_reducible refine (dig2_yes R4 _ X4'.out).mono ?_); rw [← E6'.out, ← E7'.out]; rintro e wq ⟨rfl, ⟨n5, rfl⟩⟩)
    | ((with_reducible refine gate_store (t := 3) (p := 40) rfl ?_); refine store_event (t := 3) (p := 40) (v := ?vo40) (w1 := (w5.setCell ⟨g8, 5, none⟩ (.int .i64 n)).drewN n5) ?hg ?ho ?hn ?hr ?_; (case ho => rfl); (case hg => rfl); (case hn => rfl); (case hr => first | (go_simp; done) | (go_simp; rfl)); intro w6 hw; have BT6 := Aside0.mk (show w6.heap[g8]? = some (.cells #[.int .i64 Y, .int .i64 mo, .int .i64 d, .int .i64 h, .int .i64 mi, .int .i64 n, .int .i64 0, .int .i64 0] 87 (0, 0)) from by rw [hw]; exact blk_drewN (blk_put (cs := #[.int .i64 Y, .int .i64 mo, .int .i64 d, .int .i64 h, .int .i64 mi, .int .i64 0, .int .i64 0, .int .i64 0]) BT5.out 5 _ rfl) _); have BR6 := Aside0.mk (show w6.heap[g2]? = some (.cells #[.int .i64 0, .int .i64 0, .int .i64 0, .int .i64 0, .int .i64 0, .int .i64 0, .int .i64 0, .int .i64 0] 87 (0, 0)) from by rw [hw]; exact blk_drewN (blk_far BR5.out NE.out _) _); have HB6 := Aside0.mk (show Below w.heap.size w w6 from by rw [hw]; exact pw_below_drewN (below_set HB5.out GT.out) _); clear ct0 ctf0 ct1 ctf1 ct2 ctf2 ct3 ctf3 ct4 ctf4 ct5 ctf5 ct6 ctf6 ct7 ctf7; have ct0 := (blk_cell BT6.out 0).trans (show _ = some (.int .i64 Y) from rfl); have ctf0 := blk_frozen BT6.out 0; have ct1 := (blk_cell BT6.out 1).trans (show _ = some (.int .i64 mo) from rfl); have ctf1 := blk_frozen BT6.out 1; have ct2 := (blk_cell BT6.out 2).trans (show _ = some (.int .i64 d) from rfl); have ctf2 := blk_frozen BT6.out 2; have ct3 := (blk_cell BT6.out 3).trans (show _ = some (.int .i64 h) from rfl); have ctf3 := blk_frozen BT6.out 3; have ct4 := (blk_cell BT6.out 4).trans (show _ = some (.int .i64 mi) from rfl); have ctf4 := blk_frozen BT6.out 4; have ct5 := (blk_cell BT6.out 5).trans (show _ = some (.int .i64 n) from rfl); have ctf5 := blk_frozen BT6.out 5; have ct6 := (blk_cell BT6.out 6).trans (show _ = some (.int .i64 0) from rfl); have ctf6 := blk_frozen BT6.out 6; have ct7 := (blk_cell BT6.out 7).trans (show _ = some (.int .i64 0) from rfl); have ctf7 := blk_frozen BT6.out 7; clear cr0 crf0 cr1 crf1 cr2 crf2 cr3 crf3 cr4 crf4 cr5 crf5 cr6 crf6 cr7 crf7; have cr0 := (blk_cell BR6.out 0).trans (show _ = some (.int .i64 0) from rfl); have crf0 := blk_frozen BR6.out 0; have cr1 := (blk_cell BR6.out 1).trans (show _ = some (.int .i64 0) from rfl); have crf1 := blk_frozen BR6.out 1; have cr2 := (blk_cell BR6.out 2).trans (show _ = some (.int .i64 0) from rfl); have crf2 := blk_frozen BR6.out 2; have cr3 := (blk_cell BR6.out 3).trans (show _ = some (.int .i64 0) from rfl); have crf3 := blk_frozen BR6.out 3; have cr4 := (blk_cell BR6.out 4).trans (show _ = some (.int .i64 0) from rfl); have crf4 := blk_frozen BR6.out 4; have cr5 := (blk_cell BR6.out 5).trans (show _ = some (.int .i64 0) from rfl); have crf5 := blk_frozen BR6.out 5; have cr6 := (blk_cell BR6.out 6).trans (show _ = some (.int .i64 0) from rfl); have crf6 := blk_frozen BR6.out 6; have cr7 := (blk_cell BR6.out 7).trans (show _ = some (.int .i64 0) from rfl); have crf7 := blk_frozen BR6.out 7; clear hw)
    | (go_at_call 100; (with_reducible refine (zone2_any R5 _).mono ?_); rw [X6'.out, ← E8'.out]; rintro e wq ⟨rfl, ⟨n6, rfl⟩⟩)
    | ((with_reducible refine gate_store (t := 3) (p := 119) rfl ?_); refine store_event (t := 3) (p := 119) (v := ?vo119) (w1 := (w6.setCell ⟨g8, 7, none⟩ (.int .i64 a)).drewN n6) ?hg ?ho ?hn ?hr ?_; (case ho => rfl); (case hg => rfl); (case hn => rfl); (case hr => first | (go_simp; done) | (go_simp; rfl)); intro wZ hw; have BTZ := Aside0.mk (show wZ.heap[g8]? = some (.cells #[.int .i64 Y, .int .i64 mo, .int .i64 d, .int .i64 h, .int .i64 mi, .int .i64 n, .int .i64 0, .int .i64 a] 87 (0, 0)) from by rw [hw]; exact blk_drewN (blk_put (cs := #[.int .i64 Y, .int .i64 mo, .int .i64 d, .int .i64 h, .int .i64 mi, .int .i64 n, .int .i64 0, .int .i64 0]) BT6.out 7 _ rfl) _); have BRZ := Aside0.mk (show wZ.heap[g2]? = some (.cells #[.int .i64 0, .int .i64 0, .int .i64 0, .int .i64 0, .int .i64 0, .int .i64 0, .int .i64 0, .int .i64 0] 87 (0, 0)) from by rw [hw]; exact blk_drewN (blk_far BR6.out NE.out _) _); have HBZ := Aside0.mk (show Below w.heap.size w wZ from by rw [hw]; exact pw_below_drewN (below_set HB6.out GT.out) _); clear ct0 ctf0 ct1 ctf1 ct2 ctf2 ct3 ctf3 ct4 ctf4 ct5 ctf5 ct6 ctf6 ct7 ctf7; have ct0 := (blk_cell BTZ.out 0).trans (show _ = some (.int .i64 Y) from rfl); have ctf0 := blk_frozen BTZ.out 0; have ct1 := (blk_cell BTZ.out 1).trans (show _ = some (.int .i64 mo) from rfl); have ctf1 := blk_frozen BTZ.out 1; have ct2 := (blk_cell BTZ.out 2).trans (show _ = some (.int .i64 d) from rfl); have ctf2 := blk_frozen BTZ.out 2; have ct3 := (blk_cell BTZ.out 3).trans (show _ = some (.int .i64 h) from rfl); have ctf3 := blk_frozen BTZ.out 3; have ct4 := (blk_cell BTZ.out 4).trans (show _ = some (.int .i64 mi) from rfl); have ctf4 := blk_frozen BTZ.out 4; have ct5 := (blk_cell BTZ.out 5).trans (show _ = some (.int .i64 n) from rfl); have ctf5 := blk_frozen BTZ.out 5; have ct6 := (blk_cell BTZ.out 6).trans (show _ = some (.int .i64 0) from rfl); have ctf6 := blk_frozen BTZ.out 6; have ct7 := (blk_cell BTZ.out 7).trans (show _ = some (.int .i64 a) from rfl); have ctf7 := blk_frozen BTZ.out 7; clear cr0 crf0 cr1 crf1 cr2 crf2 cr3 crf3 cr4 crf4 cr5 crf5 cr6 crf6 cr7 crf7; have cr0 := (blk_cell BRZ.out 0).trans (show _ = some (.int .i64 0) from rfl); have crf0 := blk_frozen BRZ.out 0; have cr1 := (blk_cell BRZ.out 1).trans (show _ = some (.int .i64 0) from rfl); have crf1 := blk_frozen BRZ.out 1; have cr2 := (blk_cell BRZ.out 2).trans (show _ = some (.int .i64 0) from rfl); have crf2 := blk_frozen BRZ.out 2; have cr3 := (blk_cell BRZ.out 3).trans (show _ = some (.int .i64 0) from rfl); have crf3 := blk_frozen BRZ.out 3; have cr4 := (blk_cell BRZ.out 4).trans (show _ = some (.int .i64 0) from rfl); have crf4 := blk_frozen BRZ.out 4; have cr5 := (blk_cell BRZ.out 5).trans (show _ = some (.int .i64 0) from rfl); have crf5 := blk_frozen BRZ.out 5; have cr6 := (blk_cell BRZ.out 6).trans (show _ = some (.int .i64 0) from rfl); have crf6 := blk_frozen BRZ.out 6; have cr7 := (blk_cell BRZ.out 7).trans (show _ = some (.int .i64 0) from rfl); have crf7 := blk_frozen BRZ.out 7; clear hw)
    | ((with_reducible refine gate_store (t := 87) (p := 2) rfl ?_); refine store_event (t := 87) (p := 2) (v := ?vo2) (w1 := (put8 wZ g2 (.int .i64 Y) (.int .i64 mo) (.int .i64 d) (.int .i64 h) (.int .i64 mi) (.int .i64 n) (.int .i64 0) (.int .i64 a))) ?hg ?ho ?hn ?hr ?_; (case ho => rfl); (case hg => rfl); (case hn => rfl); (case hr => first | (go_simp; done) | (go_simp; rfl)); intro w9 hw; have BX := Aside0.mk (show w9.heap[g2]? = some (.cells #[.int .i64 Y, .int .i64 mo, .int .i64 d, .int .i64 h, .int .i64 mi, .int .i64 n, .int .i64 0, .int .i64 a] 87 (0, 0)) from by rw [hw]; exact put8_blk BRZ.out (.int .i64 Y) (.int .i64 mo) (.int .i64 d) (.int .i64 h) (.int .i64 mi) (.int .i64 n) (.int .i64 0) (.int .i64 a)); have HX := Aside0.mk (show Below w.heap.size w w9 from by rw [hw]; exact HBZ.out.grown (put8_grown wZ g2 (.int .i64 Y) (.int .i64 mo) (.int .i64 d) (.int .i64 h) (.int .i64 mi) (.int .i64 n) (.int .i64 0) (.int .i64 a)) (below_size HBZ.out) (fun q hq => by cases hq; exact GR.out)); clear hw))
  refine bodyPost_ret (results_ct rfl _ _ g2 87 #[.int .i64 Y, .int .i64 mo, .int .i64 d, .int .i64 h, .int .i64 mi, .int .i64 n, .int .i64 0, .int .i64 a] (0, 0) _ rfl BX.out Try.underlying87 rfl (by kernel_rfl)) rfl ?_
  exact ⟨rfl, HX.out⟩
set_option maxHeartbeats 8000000 in
set_option maxRecDepth 100000 in
theorem Gen_g0b (A0 : Option Addr) (c0 : Nat) (l : List Int) (S : ByteArray) (Y mo d h mi n a : Int) (c : Nat) (R4 R5 R6 : ByteArray) (w : World) (hr0 : Kd.C (Kd.int .u8) w A0 l.length l) (hS : S = strOfNums l) (x1 : dg4 S = true) (ev : Y = dv4 S) (z0 : dg2 (dr4 S) = true) (z1 : dg2 (dr2 (dr4 S)) = true) (z2 : dg2 (dr2 (dr2 (dr4 S))) = true) (z3 : dg2 (dr2 (dr2 (dr2 (dr4 S)))) = true) (e1 : mo = dv2 (dr4 S)) (e2 : d = dv2 (dr2 (dr4 S))) (e3 : h = dv2 (dr2 (dr2 (dr4 S)))) (e4 : mi = dv2 (dr2 (dr2 (dr2 (dr4 S))))) (e5 : R4 = dr2 (dr2 (dr2 (dr2 (dr4 S))))) (x3 : dateB Y mo d h mi = true) (x4 : dg2 R4 = true) (e6 : n = dv2 R4) (e7 : R5 = dr2 R4) (x5 : n < 60) (x8 : 0 < R5.size) (x9 : bt R5 0 ≠ 46) (x6 : zO R5 = true) (e8 : a = zV R5) :
    Calls Try.prog 85 #[.slice A0 l.length c0] w (PGood w Y mo d h mi n (0) a) := by
  have bY := dv4_range x1
  rw [← ev] at bY
  have bn := dv2_range x4
  rw [← e6] at bn
  have X1' := Aside0.mk x1
  have EV' := Aside0.mk ev
  have Z0' := Aside0.mk z0
  have Z1' := Aside0.mk z1
  have Z2' := Aside0.mk z2
  have Z3' := Aside0.mk z3
  have E1' := Aside0.mk e1
  have E2' := Aside0.mk e2
  have E3' := Aside0.mk e3
  have E4' := Aside0.mk e4
  have E5' := Aside0.mk e5
  have X3' := Aside0.mk x3
  have X4' := Aside0.mk x4
  have E6' := Aside0.mk e6
  have E7' := Aside0.mk e7
  have X5' := Aside0.mk x5
  have X8' := Aside0.mk x8
  have X9' := Aside0.mk x9
  have X6' := Aside0.mk x6
  have E8' := Aside0.mk e8
  have t60 : decide (60 ≤ n) = false := decide_eq_false (by omega)
  have tz : decide (0 < (R5.size : Int)) = true := decide_eq_true (by omega)
  have tzn : decide (0 < R5.size) = true := decide_eq_true (by omega)
  have tq : ((0 : Int) < (R5.size : Int)) = True := eq_true (by omega)
  have tqn : (0 < R5.size) = True := eq_true (by omega)
  have hx0 : ∀ h : 0 < R5.size, ((R5[0]'h).toNat : Int) = bt R5 0 := bt_at R5 0
  have t46 : (bt R5 0 == 46) = false := beq_eq_false_iff_ne.mpr x9
  have HR0 := Aside0.mk hr0
  have HS := Aside0.mk hS
  have HB0 := Aside0.mk (Below.refl w.heap.size w)
  clear hr0 hS x1 ev z0 z1 z2 z3 e1 e2 e3 e4 e5 x3 x4 e6 e7 x5 x8 x9 x6 e8
  go_enter Try.func85, Try.ntmps85
  go_wp2_with (first
    | ((with_reducible refine gate_dst (N := 2) rfl ?_); refine box_event ?hg (N := 2) ?hd (cs := #[.int .i64 0, .int .i64 0, .int .i64 0, .int .i64 0, .int .i64 0, .int .i64 0, .int .i64 0, .int .i64 0]) (t := 87) ?hr ?_; (case hd => rfl); (case hg => rfl); (case hr => first | (go_simp; done) | (go_simp; rfl)); intro g2 hg w1 hbox hb; have BR1 := Aside0.mk hbox; have HB1 := Aside0.mk (below_step HB0.out hb); have GR := Aside0.mk (show w.heap.size ≤ g2 by rw [hg]; exact Nat.le_refl _); clear hbox hb hg)
    | (go_at_call 97; (with_reducible refine (errors_New_any _ _).mono ?_); rintro e w2 ⟨T, x, rfl, hb⟩; have BR2 := Aside0.mk (blk_below BR1.out hb); have HB2 := Aside0.mk (below_step HB1.out hb); have hcv := Kd.C_string (P := Try.prog) (A := A0) (c := c0) Try.underlying25 Try.underlying5 Try.underlying9 (Kd.C_below HR0.out HB2.out); rw [← HS.out] at hcv; clear hb)
    | (go_at_call 98; (with_reducible refine (dig4_yes S _ X1'.out).mono ?_); rw [← EV'.out]; rintro e w3 ⟨rfl, ⟨n1, rfl⟩⟩; clear hcv)
    | (go_at_call 99; (with_reducible refine (zzDate_yes Y mo d h mi (dr4 S) _ Z0'.out Z1'.out Z2'.out Z3'.out E1'.out E2'.out E3'.out E4'.out).mono ?_); rw [X3'.out, ← E5'.out]; rintro e w3 ⟨rfl, hb⟩; have BR3 := Aside0.mk (blk_below (blk_drewN BR2.out n1) hb); have HB3 := Aside0.mk (below_step (pw_below_drewN HB2.out n1) hb); clear hb)
    | ((with_reducible refine gate_dst (N := 8) rfl ?_); refine box_event ?hg (N := 8) ?hd (cs := #[.int .i64 0, .int .i64 0, .int .i64 0, .int .i64 0, .int .i64 0, .int .i64 0, .int .i64 0, .int .i64 0]) (t := 87) ?hr ?_; (case hd => rfl); (case hg => rfl); (case hr => first | (go_simp; done) | (go_simp; rfl)); intro g8 hg w4 hbox hb; have BR4 := Aside0.mk (blk_below BR3.out hb); have HB4 := Aside0.mk (below_step HB3.out hb); have BT4 := Aside0.mk hbox; have GT := Aside0.mk (show w.heap.size ≤ g8 by rw [hg]; exact below_size HB3.out); have NE := Aside0.mk (show g2 ≠ g8 by rw [hg]; exact Nat.ne_of_lt (blk_lt BR3.out)); have ct0 := (blk_cell BT4.out 0).trans (show _ = some (.int .i64 0) from rfl); have ctf0 := blk_frozen BT4.out 0; have ct1 := (blk_cell BT4.out 1).trans (show _ = some (.int .i64 0) from rfl); have ctf1 := blk_frozen BT4.out 1; have ct2 := (blk_cell BT4.out 2).trans (show _ = some (.int .i64 0) from rfl); have ctf2 := blk_frozen BT4.out 2; have ct3 := (blk_cell BT4.out 3).trans (show _ = some (.int .i64 0) from rfl); have ctf3 := blk_frozen BT4.out 3; have ct4 := (blk_cell BT4.out 4).trans (show _ = some (.int .i64 0) from rfl); have ctf4 := blk_frozen BT4.out 4; have ct5 := (blk_cell BT4.out 5).trans (show _ = some (.int .i64 0) from rfl); have ctf5 := blk_frozen BT4.out 5; have ct6 := (blk_cell BT4.out 6).trans (show _ = some (.int .i64 0) from rfl); have ctf6 := blk_frozen BT4.out 6; have ct7 := (blk_cell BT4.out 7).trans (show _ = some (.int .i64 0) from rfl); have ctf7 := blk_frozen BT4.out 7; clear hbox hb hg)
    | ((with_reducible refine gate_store (t := 87) (p := 8) rfl ?_); refine store_event (t := 87) (p := 8) (v := ?vo8) (w1 := put8 (w4) g8 (.int .i64 Y) (.int .i64 mo) (.int .i64 d) (.int .i64 h) (.int .i64 mi) (.int .i64 0) (.int .i64 0) (.int .i64 0)) ?hg ?ho ?hn ?hr ?_; (case ho => rfl); (case hg => rfl); (case hn => rfl); (case hr => first | (go_simp; done) | (go_simp; rfl)); intro w5 hw; have BT5 := Aside0.mk (show w5.heap[g8]? = some (.cells #[.int .i64 Y, .int .i64 mo, .int .i64 d, .int .i64 h, .int .i64 mi, .int .i64 0, .int .i64 0, .int .i64 0] 87 (0, 0)) from by rw [hw]; exact put8_blk BT4.out (.int .i64 Y) (.int .i64 mo) (.int .i64 d) (.int .i64 h) (.int .i64 mi) (.int .i64 0) (.int .i64 0) (.int .i64 0)); have BR5 := Aside0.mk (show w5.heap[g2]? = some (.cells #[.int .i64 0, .int .i64 0, .int .i64 0, .int .i64 0, .int .i64 0, .int .i64 0, .int .i64 0, .int .i64 0] 87 (0, 0)) from by rw [hw]; exact blk_grown BR4.out (put8_grown w4 g8 (.int .i64 Y) (.int .i64 mo) (.int .i64 d) (.int .i64 h) (.int .i64 mi) (.int .i64 0) (.int .i64 0) (.int .i64 0)) (fun e => NE.out (by injection e))); have HB5 := Aside0.mk (show Below w.heap.size w w5 from by rw [hw]; exact HB4.out.grown (put8_grown w4 g8 (.int .i64 Y) (.int .i64 mo) (.int .i64 d) (.int .i64 h) (.int .i64 mi) (.int .i64 0) (.int .i64 0) (.int .i64 0)) (below_size HB4.out) (fun q hq => by cases hq; exact GT.out)); clear ct0 ctf0 ct1 ctf1 ct2 ctf2 ct3 ctf3 ct4 ctf4 ct5 ctf5 ct6 ctf6 ct7 ctf7; have ct0 := (blk_cell BT5.out 0).trans (show _ = some (.int .i64 Y) from rfl); have ctf0 := blk_frozen BT5.out 0; have ct1 := (blk_cell BT5.out 1).trans (show _ = some (.int .i64 mo) from rfl); have ctf1 := blk_frozen BT5.out 1; have ct2 := (blk_cell BT5.out 2).trans (show _ = some (.int .i64 d) from rfl); have ctf2 := blk_frozen BT5.out 2; have ct3 := (blk_cell BT5.out 3).trans (show _ = some (.int .i64 h) from rfl); have ctf3 := blk_frozen BT5.out 3; have ct4 := (blk_cell BT5.out 4).trans (show _ = some (.int .i64 mi) from rfl); have ctf4 := blk_frozen BT5.out 4; have ct5 := (blk_cell BT5.out 5).trans (show _ = some (.int .i64 0) from rfl); have ctf5 := blk_frozen BT5.out 5; have ct6 := (blk_cell BT5.out 6).trans (show _ = some (.int .i64 0) from rfl); have ctf6 := blk_frozen BT5.out 6; have ct7 := (blk_cell BT5.out 7).trans (show _ = some (.int .i64 0) from rfl); have ctf7 := blk_frozen BT5.out 7; have cr0 := (blk_cell BR5.out 0).trans (show _ = some (.int .i64 0) from rfl); have crf0 := blk_frozen BR5.out 0; have cr1 := (blk_cell BR5.out 1).trans (show _ = some (.int .i64 0) from rfl); have crf1 := blk_frozen BR5.out 1; have cr2 := (blk_cell BR5.out 2).trans (show _ = some (.int .i64 0) from rfl); have crf2 := blk_frozen BR5.out 2; have cr3 := (blk_cell BR5.out 3).trans (show _ = some (.int .i64 0) from rfl); have crf3 := blk_frozen BR5.out 3; have cr4 := (blk_cell BR5.out 4).trans (show _ = some (.int .i64 0) from rfl); have crf4 := blk_frozen BR5.out 4; have cr5 := (blk_cell BR5.out 5).trans (show _ = some (.int .i64 0) from rfl); have crf5 := blk_frozen BR5.out 5; have cr6 := (blk_cell BR5.out 6).trans (show _ = some (.int .i64 0) from rfl); have crf6 := blk_frozen BR5.out 6; have cr7 := (blk_cell BR5.out 7).trans (show _ = some (.int .i64 0) from rfl); have crf7 := blk_frozen BR5.out 7; clear hw)
    | (go_at_call 98; (with_reducible refine (dig2_yes R4 _ X4'.out).mono ?_); rw [← E6'.out, ← E7'.out]; rintro e wq ⟨rfl, ⟨n5, rfl⟩⟩)
    | ((with_reducible refine gate_store (t := 3) (p := 40) rfl ?_); refine store_event (t := 3) (p := 40) (v := ?vo40) (w1 := (w5.setCell ⟨g8, 5, none⟩ (.int .i64 n)).drewN n5) ?hg ?ho ?hn ?hr ?_; (case ho => rfl); (case hg => rfl); (case hn => rfl); (case hr => first | (go_simp; done) | (go_simp; rfl)); intro w6 hw; have BT6 := Aside0.mk (show w6.heap[g8]? = some (.cells #[.int .i64 Y, .int .i64 mo, .int .i64 d, .int .i64 h, .int .i64 mi, .int .i64 n, .int .i64 0, .int .i64 0] 87 (0, 0)) from by rw [hw]; exact blk_drewN (blk_put (cs := #[.int .i64 Y, .int .i64 mo, .int .i64 d, .int .i64 h, .int .i64 mi, .int .i64 0, .int .i64 0, .int .i64 0]) BT5.out 5 _ rfl) _); have BR6 := Aside0.mk (show w6.heap[g2]? = some (.cells #[.int .i64 0, .int .i64 0, .int .i64 0, .int .i64 0, .int .i64 0, .int .i64 0, .int .i64 0, .int .i64 0] 87 (0, 0)) from by rw [hw]; exact blk_drewN (blk_far BR5.out NE.out _) _); have HB6 := Aside0.mk (show Below w.heap.size w w6 from by rw [hw]; exact pw_below_drewN (below_set HB5.out GT.out) _); clear ct0 ctf0 ct1 ctf1 ct2 ctf2 ct3 ctf3 ct4 ctf4 ct5 ctf5 ct6 ctf6 ct7 ctf7; have ct0 := (blk_cell BT6.out 0).trans (show _ = some (.int .i64 Y) from rfl); have ctf0 := blk_frozen BT6.out 0; have ct1 := (blk_cell BT6.out 1).trans (show _ = some (.int .i64 mo) from rfl); have ctf1 := blk_frozen BT6.out 1; have ct2 := (blk_cell BT6.out 2).trans (show _ = some (.int .i64 d) from rfl); have ctf2 := blk_frozen BT6.out 2; have ct3 := (blk_cell BT6.out 3).trans (show _ = some (.int .i64 h) from rfl); have ctf3 := blk_frozen BT6.out 3; have ct4 := (blk_cell BT6.out 4).trans (show _ = some (.int .i64 mi) from rfl); have ctf4 := blk_frozen BT6.out 4; have ct5 := (blk_cell BT6.out 5).trans (show _ = some (.int .i64 n) from rfl); have ctf5 := blk_frozen BT6.out 5; have ct6 := (blk_cell BT6.out 6).trans (show _ = some (.int .i64 0) from rfl); have ctf6 := blk_frozen BT6.out 6; have ct7 := (blk_cell BT6.out 7).trans (show _ = some (.int .i64 0) from rfl); have ctf7 := blk_frozen BT6.out 7; clear cr0 crf0 cr1 crf1 cr2 crf2 cr3 crf3 cr4 crf4 cr5 crf5 cr6 crf6 cr7 crf7; have cr0 := (blk_cell BR6.out 0).trans (show _ = some (.int .i64 0) from rfl); have crf0 := blk_frozen BR6.out 0; have cr1 := (blk_cell BR6.out 1).trans (show _ = some (.int .i64 0) from rfl); have crf1 := blk_frozen BR6.out 1; have cr2 := (blk_cell BR6.out 2).trans (show _ = some (.int .i64 0) from rfl); have crf2 := blk_frozen BR6.out 2; have cr3 := (blk_cell BR6.out 3).trans (show _ = some (.int .i64 0) from rfl); have crf3 := blk_frozen BR6.out 3; have cr4 := (blk_cell BR6.out 4).trans (show _ = some (.int .i64 0) from rfl); have crf4 := blk_frozen BR6.out 4; have cr5 := (blk_cell BR6.out 5).trans (show _ = some (.int .i64 0) from rfl); have crf5 := blk_frozen BR6.out 5; have cr6 := (blk_cell BR6.out 6).trans (show _ = some (.int .i64 0) from rfl); have crf6 := blk_frozen BR6.out 6; have cr7 := (blk_cell BR6.out 7).trans (show _ = some (.int .i64 0) from rfl); have crf7 := blk_frozen BR6.out 7; clear hw)
    | (go_at_call 100; (with_reducible refine (zone2_any R5 _).mono ?_); rw [X6'.out, ← E8'.out]; rintro e wq ⟨rfl, ⟨n6, rfl⟩⟩)
    | ((with_reducible refine gate_store (t := 3) (p := 119) rfl ?_); refine store_event (t := 3) (p := 119) (v := ?vo119) (w1 := (w6.setCell ⟨g8, 7, none⟩ (.int .i64 a)).drewN n6) ?hg ?ho ?hn ?hr ?_; (case ho => rfl); (case hg => rfl); (case hn => rfl); (case hr => first | (go_simp; done) | (go_simp; rfl)); intro wZ hw; have BTZ := Aside0.mk (show wZ.heap[g8]? = some (.cells #[.int .i64 Y, .int .i64 mo, .int .i64 d, .int .i64 h, .int .i64 mi, .int .i64 n, .int .i64 0, .int .i64 a] 87 (0, 0)) from by rw [hw]; exact blk_drewN (blk_put (cs := #[.int .i64 Y, .int .i64 mo, .int .i64 d, .int .i64 h, .int .i64 mi, .int .i64 n, .int .i64 0, .int .i64 0]) BT6.out 7 _ rfl) _); have BRZ := Aside0.mk (show wZ.heap[g2]? = some (.cells #[.int .i64 0, .int .i64 0, .int .i64 0, .int .i64 0, .int .i64 0, .int .i64 0, .int .i64 0, .int .i64 0] 87 (0, 0)) from by rw [hw]; exact blk_drewN (blk_far BR6.out NE.out _) _); have HBZ := Aside0.mk (show Below w.heap.size w wZ from by rw [hw]; exact pw_below_drewN (below_set HB6.out GT.out) _); clear ct0 ctf0 ct1 ctf1 ct2 ctf2 ct3 ctf3 ct4 ctf4 ct5 ctf5 ct6 ctf6 ct7 ctf7; have ct0 := (blk_cell BTZ.out 0).trans (show _ = some (.int .i64 Y) from rfl); have ctf0 := blk_frozen BTZ.out 0; have ct1 := (blk_cell BTZ.out 1).trans (show _ = some (.int .i64 mo) from rfl); have ctf1 := blk_frozen BTZ.out 1; have ct2 := (blk_cell BTZ.out 2).trans (show _ = some (.int .i64 d) from rfl); have ctf2 := blk_frozen BTZ.out 2; have ct3 := (blk_cell BTZ.out 3).trans (show _ = some (.int .i64 h) from rfl); have ctf3 := blk_frozen BTZ.out 3; have ct4 := (blk_cell BTZ.out 4).trans (show _ = some (.int .i64 mi) from rfl); have ctf4 := blk_frozen BTZ.out 4; have ct5 := (blk_cell BTZ.out 5).trans (show _ = some (.int .i64 n) from rfl); have ctf5 := blk_frozen BTZ.out 5; have ct6 := (blk_cell BTZ.out 6).trans (show _ = some (.int .i64 0) from rfl); have ctf6 := blk_frozen BTZ.out 6; have ct7 := (blk_cell BTZ.out 7).trans (show _ = some (.int .i64 a) from rfl); have ctf7 := blk_frozen BTZ.out 7; clear cr0 crf0 cr1 crf1 cr2 crf2 cr3 crf3 cr4 crf4 cr5 crf5 cr6 crf6 cr7 crf7; have cr0 := (blk_cell BRZ.out 0).trans (show _ = some (.int .i64 0) from rfl); have crf0 := blk_frozen BRZ.out 0; have cr1 := (blk_cell BRZ.out 1).trans (show _ = some (.int .i64 0) from rfl); have crf1 := blk_frozen BRZ.out 1; have cr2 := (blk_cell BRZ.out 2).trans (show _ = some (.int .i64 0) from rfl); have crf2 := blk_frozen BRZ.out 2; have cr3 := (blk_cell BRZ.out 3).trans (show _ = some (.int .i64 0) from rfl); have crf3 := blk_frozen BRZ.out 3; have cr4 := (blk_cell BRZ.out 4).trans (show _ = some (.int .i64 0) from rfl); have crf4 := blk_frozen BRZ.out 4; have cr5 := (blk_cell BRZ.out 5).trans (show _ = some (.int .i64 0) from rfl); have crf5 := blk_frozen BRZ.out 5; have cr6 := (blk_cell BRZ.out 6).trans (show _ = some (.int .i64 0) from rfl); have crf6 := blk_frozen BRZ.out 6; have cr7 := (blk_cell BRZ.out 7).trans (show _ = some (.int .i64 0) from rfl); have crf7 := blk_frozen BRZ.out 7; clear hw)
    | ((with_reducible refine gate_store (t := 87) (p := 2) rfl ?_); refine store_event (t := 87) (p := 2) (v := ?vo2) (w1 := (put8 wZ g2 (.int .i64 Y) (.int .i64 mo) (.int .i64 d) (.int .i64 h) (.int .i64 mi) (.int .i64 n) (.int .i64 0) (.int .i64 a))) ?hg ?ho ?hn ?hr ?_; (case ho => rfl); (case hg => rfl); (case hn => rfl); (case hr => first | (go_simp; done) | (go_simp; rfl)); intro w9 hw; have BX := Aside0.mk (show w9.heap[g2]? = some (.cells #[.int .i64 Y, .int .i64 mo, .int .i64 d, .int .i64 h, .int .i64 mi, .int .i64 n, .int .i64 0, .int .i64 a] 87 (0, 0)) from by rw [hw]; exact put8_blk BRZ.out (.int .i64 Y) (.int .i64 mo) (.int .i64 d) (.int .i64 h) (.int .i64 mi) (.int .i64 n) (.int .i64 0) (.int .i64 a)); have HX := Aside0.mk (show Below w.heap.size w w9 from by rw [hw]; exact HBZ.out.grown (put8_grown wZ g2 (.int .i64 Y) (.int .i64 mo) (.int .i64 d) (.int .i64 h) (.int .i64 mi) (.int .i64 n) (.int .i64 0) (.int .i64 a)) (below_size HBZ.out) (fun q hq => by cases hq; exact GR.out)); clear hw))
  refine bodyPost_ret (results_ct rfl _ _ g2 87 #[.int .i64 Y, .int .i64 mo, .int .i64 d, .int .i64 h, .int .i64 mi, .int .i64 n, .int .i64 0, .int .i64 a] (0, 0) _ rfl BX.out Try.underlying87 rfl (by kernel_rfl)) rfl ?_
  exact ⟨rfl, HX.out⟩
set_option maxHeartbeats 8000000 in
set_option maxRecDepth 100000 in
theorem Gen_f1 (A0 : Option Addr) (c0 : Nat) (l : List Int) (S : ByteArray) (Y mo d h mi n a : Int) (c : Nat) (R4 R5 R6 : ByteArray) (w : World) (hr0 : Kd.C (Kd.int .u8) w A0 l.length l) (hS : S = strOfNums l) (x1 : dg4 S = true) (ev : Y = dv4 S) (z0 : dg2 (dr4 S) = true) (z1 : dg2 (dr2 (dr4 S)) = true) (z2 : dg2 (dr2 (dr2 (dr4 S))) = true) (z3 : dg2 (dr2 (dr2 (dr2 (dr4 S)))) = true) (e1 : mo = dv2 (dr4 S)) (e2 : d = dv2 (dr2 (dr4 S))) (e3 : h = dv2 (dr2 (dr2 (dr4 S)))) (e4 : mi = dv2 (dr2 (dr2 (dr2 (dr4 S))))) (e5 : R4 = dr2 (dr2 (dr2 (dr2 (dr4 S))))) (x3 : dateB Y mo d h mi = true) (x4 : dg2 R4 = true) (e6 : n = dv2 R4) (e7 : R5 = dr2 R4) (x5 : n < 60) (x8 : 0 < R5.size) (x9 : bt R5 0 = 46) (c1 : 1 ≤ c) (c2 : c ≤ R5.size) (c3 : ∀ j : Nat, 1 ≤ j → j < c → 48 ≤ bt R5 (j : Int) ∧ bt R5 (j : Int) ≤ 57) (c4 : c = R5.size ∨ bt R5 (c : Int) < 48 ∨ 57 < bt R5 (c : Int)) (ce : R5.size ≤ 4611686018427387904) (c5 : c = 1) :
    Calls Try.prog 85 #[.slice A0 l.length c0] w (PBad w) := by
  have bY := dv4_range x1
  rw [← ev] at bY
  have bn := dv2_range x4
  rw [← e6] at bn
  have X1' := Aside0.mk x1
  have EV' := Aside0.mk ev
  have Z0' := Aside0.mk z0
  have Z1' := Aside0.mk z1
  have Z2' := Aside0.mk z2
  have Z3' := Aside0.mk z3
  have E1' := Aside0.mk e1
  have E2' := Aside0.mk e2
  have E3' := Aside0.mk e3
  have E4' := Aside0.mk e4
  have E5' := Aside0.mk e5
  have X3' := Aside0.mk x3
  have X4' := Aside0.mk x4
  have E6' := Aside0.mk e6
  have E7' := Aside0.mk e7
  have X5' := Aside0.mk x5
  have X8' := Aside0.mk x8
  have X9' := Aside0.mk x9
  have C1' := Aside0.mk c1
  have C2' := Aside0.mk c2
  have C3' := Aside0.mk c3
  have C4' := Aside0.mk c4
  have CE' := Aside0.mk ce
  have C5' := Aside0.mk c5
  have t60 : decide (60 ≤ n) = false := decide_eq_false (by omega)
  have tz : decide (0 < (R5.size : Int)) = true := decide_eq_true (by omega)
  have tzn : decide (0 < R5.size) = true := decide_eq_true (by omega)
  have tq : ((0 : Int) < (R5.size : Int)) = True := eq_true (by omega)
  have tqn : (0 < R5.size) = True := eq_true (by omega)
  have hx0 : ∀ h : 0 < R5.size, ((R5[0]'h).toNat : Int) = bt R5 0 := bt_at R5 0
  have t46 : (bt R5 0 == 46) = true := beq_iff_eq.mpr x9
  have HR0 := Aside0.mk hr0
  have HS := Aside0.mk hS
  have HB0 := Aside0.mk (Below.refl w.heap.size w)
  clear hr0 hS x1 ev z0 z1 z2 z3 e1 e2 e3 e4 e5 x3 x4 e6 e7 x5 x8 x9 c1 c2 c3 c4 ce c5
  go_enter Try.func85, Try.ntmps85
  go_upto_block 0 with (first
    | ((with_reducible refine gate_dst (N := 2) rfl ?_); refine box_event ?hg (N := 2) ?hd (cs := #[.int .i64 0, .int .i64 0, .int .i64 0, .int .i64 0, .int .i64 0, .int .i64 0, .int .i64 0, .int .i64 0]) (t := 87) ?hr ?_; (case hd => rfl); (case hg => rfl); (case hr => first | (go_simp; done) | (go_simp; rfl)); intro g2 hg w1 hbox hb; have BR1 := Aside0.mk hbox; have HB1 := Aside0.mk (below_step HB0.out hb); have GR := Aside0.mk (show w.heap.size ≤ g2 by rw [hg]; exact Nat.le_refl _); clear hbox hb hg)
    | (go_at_call 97; (with_reducible refine (errors_New_any _ _).mono ?_); rintro e w2 ⟨T, x, rfl, hb⟩; have BR2 := Aside0.mk (blk_below BR1.out hb); have HB2 := Aside0.mk (below_step HB1.out hb); have hcv := Kd.C_string (P := Try.prog) (A := A0) (c := c0) Try.underlying25 Try.underlying5 Try.underlying9 (Kd.C_below HR0.out HB2.out); rw [← HS.out] at hcv; clear hb)
    | (go_at_call 98; (with_reducible refine (dig4_yes S _ X1'.out).mono ?_); rw [← EV'.out]; rintro e w3 ⟨rfl, ⟨n1, rfl⟩⟩; clear hcv)
    | (go_at_call 99; (with_reducible refine (zzDate_yes Y mo d h mi (dr4 S) _ Z0'.out Z1'.out Z2'.out Z3'.out E1'.out E2'.out E3'.out E4'.out).mono ?_); rw [X3'.out, ← E5'.out]; rintro e w3 ⟨rfl, hb⟩; have BR3 := Aside0.mk (blk_below (blk_drewN BR2.out n1) hb); have HB3 := Aside0.mk (below_step (pw_below_drewN HB2.out n1) hb); clear hb)
    | ((with_reducible refine gate_dst (N := 8) rfl ?_); refine box_event ?hg (N := 8) ?hd (cs := #[.int .i64 0, .int .i64 0, .int .i64 0, .int .i64 0, .int .i64 0, .int .i64 0, .int .i64 0, .int .i64 0]) (t := 87) ?hr ?_; (case hd => rfl); (case hg => rfl); (case hr => first | (go_simp; done) | (go_simp; rfl)); intro g8 hg w4 hbox hb; have BR4 := Aside0.mk (blk_below BR3.out hb); have HB4 := Aside0.mk (below_step HB3.out hb); have BT4 := Aside0.mk hbox; have GT := Aside0.mk (show w.heap.size ≤ g8 by rw [hg]; exact below_size HB3.out); have NE := Aside0.mk (show g2 ≠ g8 by rw [hg]; exact Nat.ne_of_lt (blk_lt BR3.out)); have ct0 := (blk_cell BT4.out 0).trans (show _ = some (.int .i64 0) from rfl); have ctf0 := blk_frozen BT4.out 0; have ct1 := (blk_cell BT4.out 1).trans (show _ = some (.int .i64 0) from rfl); have ctf1 := blk_frozen BT4.out 1; have ct2 := (blk_cell BT4.out 2).trans (show _ = some (.int .i64 0) from rfl); have ctf2 := blk_frozen BT4.out 2; have ct3 := (blk_cell BT4.out 3).trans (show _ = some (.int .i64 0) from rfl); have ctf3 := blk_frozen BT4.out 3; have ct4 := (blk_cell BT4.out 4).trans (show _ = some (.int .i64 0) from rfl); have ctf4 := blk_frozen BT4.out 4; have ct5 := (blk_cell BT4.out 5).trans (show _ = some (.int .i64 0) from rfl); have ctf5 := blk_frozen BT4.out 5; have ct6 := (blk_cell BT4.out 6).trans (show _ = some (.int .i64 0) from rfl); have ctf6 := blk_frozen BT4.out 6; have ct7 := (blk_cell BT4.out 7).trans (show _ = some (.int .i64 0) from rfl); have ctf7 := blk_frozen BT4.out 7; clear hbox hb hg)
    | ((with_reducible refine gate_store (t := 87) (p := 8) rfl ?_); refine store_event (t := 87) (p := 8) (v := ?vo8) (w1 := put8 (w4) g8 (.int .i64 Y) (.int .i64 mo) (.int .i64 d) (.int .i64 h) (.int .i64 mi) (.int .i64 0) (.int .i64 0) (.int .i64 0)) ?hg ?ho ?hn ?hr ?_; (case ho => rfl); (case hg => rfl); (case hn => rfl); (case hr => first | (go_simp; done) | (go_simp; rfl)); intro w5 hw; have BT5 := Aside0.mk (show w5.heap[g8]? = some (.cells #[.int .i64 Y, .int .i64 mo, .int .i64 d, .int .i64 h, .int .i64 mi, .int .i64 0, .int .i64 0, .int .i64 0] 87 (0, 0)) from by rw [hw]; exact put8_blk BT4.out (.int .i64 Y) (.int .i64 mo) (.int .i64 d) (.int .i64 h) (.int .i64 mi) (.int .i64 0) (.int .i64 0) (.int .i64 0)); have BR5 := Aside0.mk (show w5.heap[g2]? = some (.cells #[.int .i64 0, .int .i64 0, .int .i64 0, .int .i64 0, .int .i64 0, .int .i64 0, .int .i64 0, .int .i64 0] 87 (0, 0)) from by rw [hw]; exact blk_grown BR4.out (put8_grown w4 g8 (.int .i64 Y) (.int .i64 mo) (.int .i64 d) (.int .i64 h) (.int .i64 mi) (.int .i64 0) (.int .i64 0) (.int .i64 0)) (fun e => NE.out (by injection e))); have HB5 := Aside0.mk (show Below w.heap.size w w5 from by rw [hw]; exact HB4.out.grown (put8_grown w4 g8 (.int .i64 Y) (.int .i64 mo) (.int .i64 d) (.int .i64 h) (.int .i64 mi) (.int .i64 0) (.int .i64 0) (.int .i64 0)) (below_size HB4.out) (fun q hq => by cases hq; exact GT.out)); clear ct0 ctf0 ct1 ctf1 ct2 ctf2 ct3 ctf3 ct4 ctf4 ct5 ctf5 ct6 ctf6 ct7 ctf7; have ct0 := (blk_cell BT5.out 0).trans (show _ = some (.int .i64 Y) from rfl); have ctf0 := blk_frozen BT5.out 0; have ct1 := (blk_cell BT5.out 1).trans (show _ = some (.int .i64 mo) from rfl); have ctf1 := blk_frozen BT5.out 1; have ct2 := (blk_cell BT5.out 2).trans (show _ = some (.int .i64 d) from rfl); have ctf2 := blk_frozen BT5.out 2; have ct3 := (blk_cell BT5.out 3).trans (show _ = some (.int .i64 h) from rfl); have ctf3 := blk_frozen BT5.out 3; have ct4 := (blk_cell BT5.out 4).trans (show _ = some (.int .i64 mi) from rfl); have ctf4 := blk_frozen BT5.out 4; have ct5 := (blk_cell BT5.out 5).trans (show _ = some (.int .i64 0) from rfl); have ctf5 := blk_frozen BT5.out 5; have ct6 := (blk_cell BT5.out 6).trans (show _ = some (.int .i64 0) from rfl); have ctf6 := blk_frozen BT5.out 6; have ct7 := (blk_cell BT5.out 7).trans (show _ = some (.int .i64 0) from rfl); have ctf7 := blk_frozen BT5.out 7; have cr0 := (blk_cell BR5.out 0).trans (show _ = some (.int .i64 0) from rfl); have crf0 := blk_frozen BR5.out 0; have cr1 := (blk_cell BR5.out 1).trans (show _ = some (.int .i64 0) from rfl); have crf1 := blk_frozen BR5.out 1; have cr2 := (blk_cell BR5.out 2).trans (show _ = some (.int .i64 0) from rfl); have crf2 := blk_frozen BR5.out 2; have cr3 := (blk_cell BR5.out 3).trans (show _ = some (.int .i64 0) from rfl); have crf3 := blk_frozen BR5.out 3; have cr4 := (blk_cell BR5.out 4).trans (show _ = some (.int .i64 0) from rfl); have crf4 := blk_frozen BR5.out 4; have cr5 := (blk_cell BR5.out 5).trans (show _ = some (.int .i64 0) from rfl); have crf5 := blk_frozen BR5.out 5; have cr6 := (blk_cell BR5.out 6).trans (show _ = some (.int .i64 0) from rfl); have crf6 := blk_frozen BR5.out 6; have cr7 := (blk_cell BR5.out 7).trans (show _ = some (.int .i64 0) from rfl); have crf7 := blk_frozen BR5.out 7; clear hw)
    | (go_at_call 98; (with_reducible refine (dig2_yes R4 _ X4'.out).mono ?_); rw [← E6'.out, ← E7'.out]; rintro e wq ⟨rfl, ⟨n5, rfl⟩⟩)
    | ((with_reducible refine gate_store (t := 3) (p := 40) rfl ?_); refine store_event (t := 3) (p := 40) (v := ?vo40) (w1 := (w5.setCell ⟨g8, 5, none⟩ (.int .i64 n)).drewN n5) ?hg ?ho ?hn ?hr ?_; (case ho => rfl); (case hg => rfl); (case hn => rfl); (case hr => first | (go_simp; done) | (go_simp; rfl)); intro w6 hw; have BT6 := Aside0.mk (show w6.heap[g8]? = some (.cells #[.int .i64 Y, .int .i64 mo, .int .i64 d, .int .i64 h, .int .i64 mi, .int .i64 n, .int .i64 0, .int .i64 0] 87 (0, 0)) from by rw [hw]; exact blk_drewN (blk_put (cs := #[.int .i64 Y, .int .i64 mo, .int .i64 d, .int .i64 h, .int .i64 mi, .int .i64 0, .int .i64 0, .int .i64 0]) BT5.out 5 _ rfl) _); have BR6 := Aside0.mk (show w6.heap[g2]? = some (.cells #[.int .i64 0, .int .i64 0, .int .i64 0, .int .i64 0, .int .i64 0, .int .i64 0, .int .i64 0, .int .i64 0] 87 (0, 0)) from by rw [hw]; exact blk_drewN (blk_far BR5.out NE.out _) _); have HB6 := Aside0.mk (show Below w.heap.size w w6 from by rw [hw]; exact pw_below_drewN (below_set HB5.out GT.out) _); clear ct0 ctf0 ct1 ctf1 ct2 ctf2 ct3 ctf3 ct4 ctf4 ct5 ctf5 ct6 ctf6 ct7 ctf7; have ct0 := (blk_cell BT6.out 0).trans (show _ = some (.int .i64 Y) from rfl); have ctf0 := blk_frozen BT6.out 0; have ct1 := (blk_cell BT6.out 1).trans (show _ = some (.int .i64 mo) from rfl); have ctf1 := blk_frozen BT6.out 1; have ct2 := (blk_cell BT6.out 2).trans (show _ = some (.int .i64 d) from rfl); have ctf2 := blk_frozen BT6.out 2; have ct3 := (blk_cell BT6.out 3).trans (show _ = some (.int .i64 h) from rfl); have ctf3 := blk_frozen BT6.out 3; have ct4 := (blk_cell BT6.out 4).trans (show _ = some (.int .i64 mi) from rfl); have ctf4 := blk_frozen BT6.out 4; have ct5 := (blk_cell BT6.out 5).trans (show _ = some (.int .i64 n) from rfl); have ctf5 := blk_frozen BT6.out 5; have ct6 := (blk_cell BT6.out 6).trans (show _ = some (.int .i64 0) from rfl); have ctf6 := blk_frozen BT6.out 6; have ct7 := (blk_cell BT6.out 7).trans (show _ = some (.int .i64 0) from rfl); have ctf7 := blk_frozen BT6.out 7; clear cr0 crf0 cr1 crf1 cr2 crf2 cr3 crf3 cr4 crf4 cr5 crf5 cr6 crf6 cr7 crf7; have cr0 := (blk_cell BR6.out 0).trans (show _ = some (.int .i64 0) from rfl); have crf0 := blk_frozen BR6.out 0; have cr1 := (blk_cell BR6.out 1).trans (show _ = some (.int .i64 0) from rfl); have crf1 := blk_frozen BR6.out 1; have cr2 := (blk_cell BR6.out 2).trans (show _ = some (.int .i64 0) from rfl); have crf2 := blk_frozen BR6.out 2; have cr3 := (blk_cell BR6.out 3).trans (show _ = some (.int .i64 0) from rfl); have crf3 := blk_frozen BR6.out 3; have cr4 := (blk_cell BR6.out 4).trans (show _ = some (.int .i64 0) from rfl); have crf4 := blk_frozen BR6.out 4; have cr5 := (blk_cell BR6.out 5).trans (show _ = some (.int .i64 0) from rfl); have crf5 := blk_frozen BR6.out 5; have cr6 := (blk_cell BR6.out 6).trans (show _ = some (.int .i64 0) from rfl); have crf6 := blk_frozen BR6.out 6; have cr7 := (blk_cell BR6.out 7).trans (show _ = some (.int .i64 0) from rfl); have crf7 := blk_frozen BR6.out 7; clear hw))
  (try simp only [Act.put, List.setIfInBounds_toArray, List.set_cons_zero, List.set_cons_succ])
  clear t60 tz tzn hx0 t46 tq tqn
  go_cut [9] (fun v9 wc => v9 = .int .i64 (c : Int) ∧ w6 = wc)
  case first =>
    have hcs : c ≤ R5.size := C2'.out
    have hce : R5.size ≤ 4611686018427387904 := CE'.out
    go_wp2
    go_loopw [9] (fun v9 wr => ∃ k : Nat, v9 = .int .i64 (k : Int) ∧ Aside0 (1 ≤ k ∧ k ≤ c) ∧ w6 = wr) (fun v9 _ => c - (intOf v9).toNat)
    case atStart => exact ⟨1, rfl, ⟨Nat.le_refl _, C1'.out⟩, rfl⟩
    case round =>
      obtain ⟨k, rfl, HK, rfl⟩ := hrel
      have hk1 : 1 ≤ k := HK.out.1
      have hkc : k ≤ c := HK.out.2
      have hxk : ∀ h : k < R5.size, ((R5[k]'h).toNat : Int) = bt R5 (k : Int) := bt_at R5 k
      have out_ : ∀ b : Nat, b = c → True := fun _ _ => trivial
      clear out_
      rcases Nat.lt_or_ge k c with hlt | hge
      · have tl : decide ((k : Int) < (R5.size : Int)) = true := decide_eq_true (by omega)
        have tlq : ((k : Int) < (R5.size : Int)) = True := eq_true (by omega)
        have tlqn : (k < R5.size) = True := eq_true (by omega)
        have tln : decide (k < R5.size) = true := decide_eq_true (by omega)
        have t48 : decide (48 ≤ bt R5 (k : Int)) = true := decide_eq_true (C3'.out k hk1 hlt).1
        have t57 : decide (bt R5 (k : Int) ≤ 57) = true := decide_eq_true (C3'.out k hk1 hlt).2
        go_wp2
        go_roundw
        case rel => exact ⟨k + 1, by go_num, ⟨by omega, by omega⟩, by first | trivial | rfl⟩
        case measure => simp [intOf]; omega
      · have hkeq : k = c := Nat.le_antisymm hkc hge
        have HKE := Aside0.mk hkeq
        clear hkeq
        rcases C4'.out with h | h | h
        · have tl : decide ((k : Int) < (R5.size : Int)) = false := decide_eq_false (by have := HKE.out; omega)
          have tln : decide (k < R5.size) = false := decide_eq_false (by have := HKE.out; omega)
          clear h
          go_wp2
          go_meet
          case rel => exact ⟨by rw [HKE.out], rfl⟩
        · rcases Nat.lt_or_ge k R5.size with hls | hls
          case inr =>
            have tl : decide ((k : Int) < (R5.size : Int)) = false := decide_eq_false (by omega)
            have tln : decide (k < R5.size) = false := decide_eq_false (by omega)
            clear h
            go_wp2
            go_meet
            case rel => exact ⟨by rw [HKE.out], rfl⟩
          rw [← HKE.out] at h
          have tl : decide ((k : Int) < (R5.size : Int)) = true := decide_eq_true (by omega)
          have tlq : ((k : Int) < (R5.size : Int)) = True := eq_true (by omega)
          have tlqn : (k < R5.size) = True := eq_true (by omega)
          have tln : decide (k < R5.size) = true := decide_eq_true (by omega)
          have t48 : decide (48 ≤ bt R5 (k : Int)) = false := decide_eq_false (by omega)
          clear h
          go_wp2
          go_meet
          case rel => exact ⟨by rw [HKE.out], rfl⟩
        · rcases Nat.lt_or_ge k R5.size with hls | hls
          case inr =>
            have tl : decide ((k : Int) < (R5.size : Int)) = false := decide_eq_false (by omega)
            have tln : decide (k < R5.size) = false := decide_eq_false (by omega)
            clear h
            go_wp2
            go_meet
            case rel => exact ⟨by rw [HKE.out], rfl⟩
          rw [← HKE.out] at h
          have tl : decide ((k : Int) < (R5.size : Int)) = true := decide_eq_true (by omega)
          have tlq : ((k : Int) < (R5.size : Int)) = True := eq_true (by omega)
          have tlqn : (k < R5.size) = True := eq_true (by omega)
          have tln : decide (k < R5.size) = true := decide_eq_true (by omega)
          have t48 : decide (48 ≤ bt R5 (k : Int)) = true := decide_eq_true (by omega)
          have t57 : decide (bt R5 (k : Int) ≤ 57) = false := decide_eq_false (by omega)
          clear h
          go_wp2
          go_meet
          case rel => exact ⟨by rw [HKE.out], rfl⟩
  case rest =>
    obtain ⟨rfl, rfl⟩ := hcut
    have hc1 : 1 ≤ c := C1'.out
    have hcs : c ≤ R5.size := C2'.out
    have hce : R5.size ≤ 4611686018427387904 := CE'.out
    have t1 : ((c : Int) == 1) = true := beq_iff_eq.mpr (by have := C5'.out; omega)
    go_wp2_with (first
      | ((with_reducible refine gate_store (t := 87) (p := 2) rfl ?_); refine store_event (t := 87) (p := 2) (v := ?vo2) (w1 := (put8 w6 g2 (.int .i64 0) (.int .i64 0) (.int .i64 0) (.int .i64 0) (.int .i64 0) (.int .i64 0) (.int .i64 0) (.int .i64 0))) ?hg ?ho ?hn ?hr ?_; (case ho => rfl); (case hg => rfl); (case hn => rfl); (case hr => first | (go_simp; done) | (go_simp; rfl)); intro w9 hw; have BX := Aside0.mk (show w9.heap[g2]? = some (.cells #[.int .i64 0, .int .i64 0, .int .i64 0, .int .i64 0, .int .i64 0, .int .i64 0, .int .i64 0, .int .i64 0] 87 (0, 0)) from by rw [hw]; exact put8_blk BR6.out (.int .i64 0) (.int .i64 0) (.int .i64 0) (.int .i64 0) (.int .i64 0) (.int .i64 0) (.int .i64 0) (.int .i64 0)); have HX := Aside0.mk (show Below w.heap.size w w9 from by rw [hw]; exact HB6.out.grown (put8_grown w6 g2 (.int .i64 0) (.int .i64 0) (.int .i64 0) (.int .i64 0) (.int .i64 0) (.int .i64 0) (.int .i64 0) (.int .i64 0)) (below_size HB6.out) (fun q hq => by cases hq; exact GR.out)); clear hw))
    refine bodyPost_ret (results_ct rfl _ _ g2 87 #[.int .i64 0, .int .i64 0, .int .i64 0, .int .i64 0, .int .i64 0, .int .i64 0, .int .i64 0, .int .i64 0] (0, 0) _ rfl BX.out Try.underlying87 rfl (by kernel_rfl)) rfl ?_
    exact ⟨T, x, rfl, HX.out⟩
set_option maxHeartbeats 8000000 in
set_option maxRecDepth 100000 in
theorem Gen_f10 (A0 : Option Addr) (c0 : Nat) (l : List Int) (S : ByteArray) (Y mo d h mi n a : Int) (c : Nat) (R4 R5 R6 : ByteArray) (w : World) (hr0 : Kd.C (Kd.int .u8) w A0 l.length l) (hS : S = strOfNums l) (x1 : dg4 S = true) (ev : Y = dv4 S) (z0 : dg2 (dr4 S) = true) (z1 : dg2 (dr2 (dr4 S)) = true) (z2 : dg2 (dr2 (dr2 (dr4 S))) = true) (z3 : dg2 (dr2 (dr2 (dr2 (dr4 S)))) = true) (e1 : mo = dv2 (dr4 S)) (e2 : d = dv2 (dr2 (dr4 S))) (e3 : h = dv2 (dr2 (dr2 (dr4 S)))) (e4 : mi = dv2 (dr2 (dr2 (dr2 (dr4 S))))) (e5 : R4 = dr2 (dr2 (dr2 (dr2 (dr4 S))))) (x3 : dateB Y mo d h mi = true) (x4 : dg2 R4 = true) (e6 : n = dv2 R4) (e7 : R5 = dr2 R4) (x5 : n < 60) (x8 : 0 < R5.size) (x9 : bt R5 0 = 46) (c1 : 1 ≤ c) (c2 : c ≤ R5.size) (c3 : ∀ j : Nat, 1 ≤ j → j < c → 48 ≤ bt R5 (j : Int) ∧ bt R5 (j : Int) ≤ 57) (c4 : c = R5.size ∨ bt R5 (c : Int) < 48 ∨ 57 < bt R5 (c : Int)) (ce : R5.size ≤ 4611686018427387904) (c5 : 10 < c) :
    Calls Try.prog 85 #[.slice A0 l.length c0] w (PBad w) := by
  have bY := dv4_range x1
  rw [← ev] at bY
  have bn := dv2_range x4
  rw [← e6] at bn
  have X1' := Aside0.mk x1
  have EV' := Aside0.mk ev
  have Z0' := Aside0.mk z0
  have Z1' := Aside0.mk z1
  have Z2' := Aside0.mk z2
  have Z3' := Aside0.mk z3
  have E1' := Aside0.mk e1
  have E2' := Aside0.mk e2
  have E3' := Aside0.mk e3
  have E4' := Aside0.mk e4
  have E5' := Aside0.mk e5
  have X3' := Aside0.mk x3
  have X4' := Aside0.mk x4
  have E6' := Aside0.mk e6
  have E7' := Aside0.mk e7
  have X5' := Aside0.mk x5
  have X8' := Aside0.mk x8
  have X9' := Aside0.mk x9
  have C1' := Aside0.mk c1
  have C2' := Aside0.mk c2
  have C3' := Aside0.mk c3
  have C4' := Aside0.mk c4
  have CE' := Aside0.mk ce
  have C5' := Aside0.mk c5
  have t60 : decide (60 ≤ n) = false := decide_eq_false (by omega)
  have tz : decide (0 < (R5.size : Int)) = true := decide_eq_true (by omega)
  have tzn : decide (0 < R5.size) = true := decide_eq_true (by omega)
  have tq : ((0 : Int) < (R5.size : Int)) = True := eq_true (by omega)
  have tqn : (0 < R5.size) = True := eq_true (by omega)
  have hx0 : ∀ h : 0 < R5.size, ((R5[0]'h).toNat : Int) = bt R5 0 := bt_at R5 0
  have t46 : (bt R5 0 == 46) = true := beq_iff_eq.mpr x9
  have HR0 := Aside0.mk hr0
  have HS := Aside0.mk hS
  have HB0 := Aside0.mk (Below.refl w.heap.size w)
  clear hr0 hS x1 ev z0 z1 z2 z3 e1 e2 e3 e4 e5 x3 x4 e6 e7 x5 x8 x9 c1 c2 c3 c4 ce c5
  go_enter Try.func85, Try.ntmps85
  go_upto_block 0 with (first
    | ((with_reducible refine gate_dst (N := 2) rfl ?_); refine box_event ?hg (N := 2) ?hd (cs := #[.int .i64 0, .int .i64 0, .int .i64 0, .int .i64 0, .int .i64 0, .int .i64 0, .int .i64 0, .int .i64 0]) (t := 87) ?hr ?_; (case hd => rfl); (case hg => rfl); (case hr => first | (go_simp; done) | (go_simp; rfl)); intro g2 hg w1 hbox hb; have BR1 := Aside0.mk hbox; have HB1 := Aside0.mk (below_step HB0.out hb); have GR := Aside0.mk (show w.heap.size ≤ g2 by rw [hg]; exact Nat.le_refl _); clear hbox hb hg)
    | (go_at_call 97; (with_reducible refine (errors_New_any _ _).mono ?_); rintro e w2 ⟨T, x, rfl, hb⟩; have BR2 := Aside0.mk (blk_below BR1.out hb); have HB2 := Aside0.mk (below_step HB1.out hb); have hcv := Kd.C_string (P := Try.prog) (A := A0) (c := c0) Try.underlying25 Try.underlying5 Try.underlying9 (Kd.C_below HR0.out HB2.out); rw [← HS.out] at hcv; clear hb)
    | (go_at_call 98; (with_reducible refine (dig4_yes S _ X1'.out).mono ?_); rw [← EV'.out]; rintro e w3 ⟨rfl, ⟨n1, rfl⟩⟩; clear hcv)
    | (go_at_call 99; (with_reducible refine (zzDate_yes Y mo d h mi (dr4 S) _ Z0'.out Z1'.out Z2'.out Z3'.out E1'.out E2'.out E3'.out E4'.out).mono ?_); rw [X3'.out, ← E5'.out]; rintro e w3 ⟨rfl, hb⟩; have BR3 := Aside0.mk (blk_below (blk_drewN BR2.out n1) hb); have HB3 := Aside0.mk (below_step (pw_below_drewN HB2.out n1) hb); clear hb)
    | ((with_reducible refine gate_dst (N := 8) rfl ?_); refine box_event ?hg (N := 8) ?hd (cs := #[.int .i64 0, .int .i64 0, .int .i64 0, .int .i64 0, .int .i64 0, .int .i64 0, .int .i64 0, .int .i64 0]) (t := 87) ?hr ?_; (case hd => rfl); (case hg => rfl); (case hr => first | (go_simp; done) | (go_simp; rfl)); intro g8 hg w4 hbox hb; have BR4 := Aside0.mk (blk_below BR3.out hb); have HB4 := Aside0.mk (below_step HB3.out hb); have BT4 := Aside0.mk hbox; have GT := Aside0.mk (show w.heap.size ≤ g8 by rw [hg]; exact below_size HB3.out); have NE := Aside0.mk (show g2 ≠ g8 by rw [hg]; exact Nat.ne_of_lt (blk_lt BR3.out)); have ct0 := (blk_cell BT4.out 0).trans (show _ = some (.int .i64 0) from rfl); have ctf0 := blk_frozen BT4.out 0; have ct1 := (blk_cell BT4.out 1).trans (show _ = some (.int .i64 0) from rfl); have ctf1 := blk_frozen BT4.out 1; have ct2 := (blk_cell BT4.out 2).trans (show _ = some (.int .i64 0) from rfl); have ctf2 := blk_frozen BT4.out 2; have ct3 := (blk_cell BT4.out 3).trans (show _ = some (.int .i64 0) from rfl); have ctf3 := blk_frozen BT4.out 3; have ct4 := (blk_cell BT4.out 4).trans (show _ = some (.int .i64 0) from rfl); have ctf4 := blk_frozen BT4.out 4; have ct5 := (blk_cell BT4.out 5).trans (show _ = some (.int .i64 0) from rfl); have ctf5 := blk_frozen BT4.out 5; have ct6 := (blk_cell BT4.out 6).trans (show _ = some (.int .i64 0) from rfl); have ctf6 := blk_frozen BT4.out 6; have ct7 := (blk_cell BT4.out 7).trans (show _ = some (.int .i64 0) from rfl); have ctf7 := blk_frozen BT4.out 7; clear hbox hb hg)
    | ((with_reducible refine gate_store (t := 87) (p := 8) rfl ?_); refine store_event (t := 87) (p := 8) (v := ?vo8) (w1 := put8 (w4) g8 (.int .i64 Y) (.int .i64 mo) (.int .i64 d) (.int .i64 h) (.int .i64 mi) (.int .i64 0) (.int .i64 0) (.int .i64 0)) ?hg ?ho ?hn ?hr ?_; (case ho => rfl); (case hg => rfl); (case hn => rfl); (case hr => first | (go_simp; done) | (go_simp; rfl)); intro w5 hw; have BT5 := Aside0.mk (show w5.heap[g8]? = some (.cells #[.int .i64 Y, .int .i64 mo, .int .i64 d, .int .i64 h, .int .i64 mi, .int .i64 0, .int .i64 0, .int .i64 0] 87 (0, 0)) from by rw [hw]; exact put8_blk BT4.out (.int .i64 Y) (.int .i64 mo) (.int .i64 d) (.int .i64 h) (.int .i64 mi) (.int .i64 0) (.int .i64 0) (.int .i64 0)); have BR5 := Aside0.mk (show w5.heap[g2]? = some (.cells #[.int .i64 0, .int .i64 0, .int .i64 0, .int .i64 0, .int .i64 0, .int .i64 0, .int .i64 0, .int .i64 0] 87 (0, 0)) from by rw [hw]; exact blk_grown BR4.out (put8_grown w4 g8 (.int .i64 Y) (.int .i64 mo) (.int .i64 d) (.int .i64 h) (.int .i64 mi) (.int .i64 0) (.int .i64 0) (.int .i64 0)) (fun e => NE.out (by injection e))); have HB5 := Aside0.mk (show Below w.heap.size w w5 from by rw [hw]; exact HB4.out.grown (put8_grown w4 g8 (.int .i64 Y) (.int .i64 mo) (.int .i64 d) (.int .i64 h) (.int .i64 mi) (.int .i64 0) (.int .i64 0) (.int .i64 0)) (below_size HB4.out) (fun q hq => by cases hq; exact GT.out)); clear ct0 ctf0 ct1 ctf1 ct2 ctf2 ct3 ctf3 ct4 ctf4 ct5 ctf5 ct6 ctf6 ct7 ctf7; have ct0 := (blk_cell BT5.out 0).trans (show _ = some (.int .i64 Y) from rfl); have ctf0 := blk_frozen BT5.out 0; have ct1 := (blk_cell BT5.out 1).trans (show _ = some (.int .i64 mo) from rfl); have ctf1 := blk_frozen BT5.out 1; have ct2 := (blk_cell BT5.out 2).trans (show _ = some (.int .i64 d) from rfl); have ctf2 := blk_frozen BT5.out 2; have ct3 := (blk_cell BT5.out 3).trans (show _ = some (.int .i64 h) from rfl); have ctf3 := blk_frozen BT5.out 3; have ct4 := (blk_cell BT5.out 4).trans (show _ = some (.int .i64 mi) from rfl); have ctf4 := blk_frozen BT5.out 4; have ct5 := (blk_cell BT5.out 5).trans (show _ = some (.int .i64 0) from rfl); have ctf5 := blk_frozen BT5.out 5; have ct6 := (blk_cell BT5.out 6).trans (show _ = some (.int .i64 0) from rfl); have ctf6 := blk_frozen BT5.out 6; have ct7 := (blk_cell BT5.out 7).trans (show _ = some (.int .i64 0) from rfl); have ctf7 := blk_frozen BT5.out 7; have cr0 := (blk_cell BR5.out 0).trans (show _ = some (.int .i64 0) from rfl); have crf0 := blk_frozen BR5.out 0; have cr1 := (blk_cell BR5.out 1).trans (show _ = some (.int .i64 0) from rfl); have crf1 := blk_frozen BR5.out 1; have cr2 := (blk_cell BR5.out 2).trans (show _ = some (.int .i64 0) from rfl); have crf2 := blk_frozen BR5.out 2; have cr3 := (blk_cell BR5.out 3).trans (show _ = some (.int .i64 0) from rfl); have crf3 := blk_frozen BR5.out 3; have cr4 := (blk_cell BR5.out 4).trans (show _ = some (.int .i64 0) from rfl); have crf4 := blk_frozen BR5.out 4; have cr5 := (blk_cell BR5.out 5).trans (show _ = some (.int .i64 0) from rfl); have crf5 := blk_frozen BR5.out 5; have cr6 := (blk_cell BR5.out 6).trans (show _ = some (.int .i64 0) from rfl); have crf6 := blk_frozen BR5.out 6; have cr7 := (blk_cell BR5.out 7).trans (show _ = some (.int .i64 0) from rfl); have crf7 := blk_frozen BR5.out 7; clear hw)
    | (go_at_call 98; (with_reducible refine (dig2_yes R4 _ X4'.out).mono ?_); rw [← E6'.out, ← E7'.out]; rintro e wq ⟨rfl, ⟨n5, rfl⟩⟩)
    | ((with_reducible refine gate_store (t := 3) (p := 40) rfl ?_); refine store_event (t := 3) (p := 40) (v := ?vo40) (w1 := (w5.setCell ⟨g8, 5, none⟩ (.int .i64 n)).drewN n5) ?hg ?ho ?hn ?hr ?_; (case ho => rfl); (case hg => rfl); (case hn => rfl); (case hr => first | (go_simp; done) | (go_simp; rfl)); intro w6 hw; have BT6 := Aside0.mk (show w6.heap[g8]? = some (.cells #[.int .i64 Y, .int .i64 mo, .int .i64 d, .int .i64 h, .int .i64 mi, .int .i64 n, .int .i64 0, .int .i64 0] 87 (0, 0)) from by rw [hw]; exact blk_drewN (blk_put (cs := #[.int .i64 Y, .int .i64 mo, .int .i64 d, .int .i64 h, .int .i64 mi, .int .i64 0, .int .i64 0, .int .i64 0]) BT5.out 5 _ rfl) _); have BR6 := Aside0.mk (show w6.heap[g2]? = some (.cells #[.int .i64 0, .int .i64 0, .int .i64 0, .int .i64 0, .int .i64 0, .int .i64 0, .int .i64 0, .int .i64 0] 87 (0, 0)) from by rw [hw]; exact blk_drewN (blk_far BR5.out NE.out _) _); have HB6 := Aside0.mk (show Below w.heap.size w w6 from by rw [hw]; exact pw_below_drewN (below_set HB5.out GT.out) _); clear ct0 ctf0 ct1 ctf1 ct2 ctf2 ct3 ctf3 ct4 ctf4 ct5 ctf5 ct6 ctf6 ct7 ctf7; have ct0 := (blk_cell BT6.out 0).trans (show _ = some (.int .i64 Y) from rfl); have ctf0 := blk_frozen BT6.out 0; have ct1 := (blk_cell BT6.out 1).trans (show _ = some (.int .i64 mo) from rfl); have ctf1 := blk_frozen BT6.out 1; have ct2 := (blk_cell BT6.out 2).trans (show _ = some (.int .i64 d) from rfl); have ctf2 := blk_frozen BT6.out 2; have ct3 := (blk_cell BT6.out 3).trans (show _ = some (.int .i64 h) from rfl); have ctf3 := blk_frozen BT6.out 3; have ct4 := (blk_cell BT6.out 4).trans (show _ = some (.int .i64 mi) from rfl); have ctf4 := blk_frozen BT6.out 4; have ct5 := (blk_cell BT6.out 5).trans (show _ = some (.int .i64 n) from rfl); have ctf5 := blk_frozen BT6.out 5; have ct6 := (blk_cell BT6.out 6).trans (show _ = some (.int .i64 0) from rfl); have ctf6 := blk_frozen BT6.out 6; have ct7 := (blk_cell BT6.out 7).trans (show _ = some (.int .i64 0) from rfl); have ctf7 := blk_frozen BT6.out 7; clear cr0 crf0 cr1 crf1 cr2 crf2 cr3 crf3 cr4 crf4 cr5 crf5 cr6 crf6 cr7 crf7; have cr0 := (blk_cell BR6.out 0).trans (show _ = some (.int .i64 0) from rfl); have crf0 := blk_frozen BR6.out 0; have cr1 := (blk_cell BR6.out 1).trans (show _ = some (.int .i64 0) from rfl); have crf1 := blk_frozen BR6.out 1; have cr2 := (blk_cell BR6.out 2).trans (show _ = some (.int .i64 0) from rfl); have crf2 := blk_frozen BR6.out 2; have cr3 := (blk_cell BR6.out 3).trans (show _ = some (.int .i64 0) from rfl); have crf3 := blk_frozen BR6.out 3; have cr4 := (blk_cell BR6.out 4).trans (show _ = some (.int .i64 0) from rfl); have crf4 := blk_frozen BR6.out 4; have cr5 := (blk_cell BR6.out 5).trans (show _ = some (.int .i64 0) from rfl); have crf5 := blk_frozen BR6.out 5; have cr6 := (blk_cell BR6.out 6).trans (show _ = some (.int .i64 0) from rfl); have crf6 := blk_frozen BR6.out 6; have cr7 := (blk_cell BR6.out 7).trans (show _ = some (.int .i64 0) from rfl); have crf7 := blk_frozen BR6.out 7; clear hw))
  (try simp only [Act.put, List.setIfInBounds_toArray, List.set_cons_zero, List.set_cons_succ])
  clear t60 tz tzn hx0 t46 tq tqn
  go_cut [9] (fun v9 wc => v9 = .int .i64 (c : Int) ∧ w6 = wc)
  case first =>
    have hcs : c ≤ R5.size := C2'.out
    have hce : R5.size ≤ 4611686018427387904 := CE'.out
    go_wp2
    go_loopw [9] (fun v9 wr => ∃ k : Nat, v9 = .int .i64 (k : Int) ∧ Aside0 (1 ≤ k ∧ k ≤ c) ∧ w6 = wr) (fun v9 _ => c - (intOf v9).toNat)
    case atStart => exact ⟨1, rfl, ⟨Nat.le_refl _, C1'.out⟩, rfl⟩
    case round =>
      obtain ⟨k, rfl, HK, rfl⟩ := hrel
      have hk1 : 1 ≤ k := HK.out.1
      have hkc : k ≤ c := HK.out.2
      have hxk : ∀ h : k < R5.size, ((R5[k]'h).toNat : Int) = bt R5 (k : Int) := bt_at R5 k
      have out_ : ∀ b : Nat, b = c → True := fun _ _ => trivial
      clear out_
      rcases Nat.lt_or_ge k c with hlt | hge
      · have tl : decide ((k : Int) < (R5.size : Int)) = true := decide_eq_true (by omega)
        have tlq : ((k : Int) < (R5.size : Int)) = True := eq_true (by omega)
        have tlqn : (k < R5.size) = True := eq_true (by omega)
        have tln : decide (k < R5.size) = true := decide_eq_true (by omega)
        have t48 : decide (48 ≤ bt R5 (k : Int)) = true := decide_eq_true (C3'.out k hk1 hlt).1
        have t57 : decide (bt R5 (k : Int) ≤ 57) = true := decide_eq_true (C3'.out k hk1 hlt).2
        go_wp2
        go_roundw
        case rel => exact ⟨k + 1, by go_num, ⟨by omega, by omega⟩, by first | trivial | rfl⟩
        case measure => simp [intOf]; omega
      · have hkeq : k = c := Nat.le_antisymm hkc hge
        have HKE := Aside0.mk hkeq
        clear hkeq
        rcases C4'.out with h | h | h
        · have tl : decide ((k : Int) < (R5.size : Int)) = false := decide_eq_false (by have := HKE.out; omega)
          have tln : decide (k < R5.size) = false := decide_eq_false (by have := HKE.out; omega)
          clear h
          go_wp2
          go_meet
          case rel => exact ⟨by rw [HKE.out], rfl⟩
        · rcases Nat.lt_or_ge k R5.size with hls | hls
          case inr =>
            have tl : decide ((k : Int) < (R5.size : Int)) = false := decide_eq_false (by omega)
            have tln : decide (k < R5.size) = false := decide_eq_false (by omega)
            clear h
            go_wp2
            go_meet
            case rel => exact ⟨by rw [HKE.out], rfl⟩
          rw [← HKE.out] at h
          have tl : decide ((k : Int) < (R5.size : Int)) = true := decide_eq_true (by omega)
          have tlq : ((k : Int) < (R5.size : Int)) = True := eq_true (by omega)
          have tlqn : (k < R5.size) = True := eq_true (by omega)
          have tln : decide (k < R5.size) = true := decide_eq_true (by omega)
          have t48 : decide (48 ≤ bt R5 (k : Int)) = false := decide_eq_false (by omega)
          clear h
          go_wp2
          go_meet
          case rel => exact ⟨by rw [HKE.out], rfl⟩
        · rcases Nat.lt_or_ge k R5.size with hls | hls
          case inr =>
            have tl : decide ((k : Int) < (R5.size : Int)) = false := decide_eq_false (by omega)
            have tln : decide (k < R5.size) = false := decide_eq_false (by omega)
            clear h
            go_wp2
            go_meet
            case rel => exact ⟨by rw [HKE.out], rfl⟩
          rw [← HKE.out] at h
          have tl : decide ((k : Int) < (R5.size : Int)) = true := decide_eq_true (by omega)
          have tlq : ((k : Int) < (R5.size : Int)) = True := eq_true (by omega)
          have tlqn : (k < R5.size) = True := eq_true (by omega)
          have tln : decide (k < R5.size) = true := decide_eq_true (by omega)
          have t48 : decide (48 ≤ bt R5 (k : Int)) = true := decide_eq_true (by omega)
          have t57 : decide (bt R5 (k : Int) ≤ 57) = false := decide_eq_false (by omega)
          clear h
          go_wp2
          go_meet
          case rel => exact ⟨by rw [HKE.out], rfl⟩
  case rest =>
    obtain ⟨rfl, rfl⟩ := hcut
    have hc1 : 1 ≤ c := C1'.out
    have hcs : c ≤ R5.size := C2'.out
    have hce : R5.size ≤ 4611686018427387904 := CE'.out
    have hc5 : 1 < c := by have := C5'.out; omega
    have t1 : ((c : Int) == 1) = false := beq_eq_false_iff_ne.mpr (by omega)
    have t10 : decide (10 < (c : Int)) = true := decide_eq_true (by have := C5'.out; omega)
    go_wp2_with (first
      | ((with_reducible refine gate_store (t := 87) (p := 2) rfl ?_); refine store_event (t := 87) (p := 2) (v := ?vo2) (w1 := (put8 w6 g2 (.int .i64 0) (.int .i64 0) (.int .i64 0) (.int .i64 0) (.int .i64 0) (.int .i64 0) (.int .i64 0) (.int .i64 0))) ?hg ?ho ?hn ?hr ?_; (case ho => rfl); (case hg => rfl); (case hn => rfl); (case hr => first | (go_simp; done) | (go_simp; rfl)); intro w9 hw; have BX := Aside0.mk (show w9.heap[g2]? = some (.cells #[.int .i64 0, .int .i64 0, .int .i64 0, .int .i64 0, .int .i64 0, .int .i64 0, .int .i64 0, .int .i64 0] 87 (0, 0)) from by rw [hw]; exact put8_blk BR6.out (.int .i64 0) (.int .i64 0) (.int .i64 0) (.int .i64 0) (.int .i64 0) (.int .i64 0) (.int .i64 0) (.int .i64 0)); have HX := Aside0.mk (show Below w.heap.size w w9 from by rw [hw]; exact HB6.out.grown (put8_grown w6 g2 (.int .i64 0) (.int .i64 0) (.int .i64 0) (.int .i64 0) (.int .i64 0) (.int .i64 0) (.int .i64 0) (.int .i64 0)) (below_size HB6.out) (fun q hq => by cases hq; exact GR.out)); clear hw))
    refine bodyPost_ret (results_ct rfl _ _ g2 87 #[.int .i64 0, .int .i64 0, .int .i64 0, .int .i64 0, .int .i64 0, .int .i64 0, .int .i64 0, .int .i64 0] (0, 0) _ rfl BX.out Try.underlying87 rfl (by kernel_rfl)) rfl ?_
    exact ⟨T, x, rfl, HX.out⟩
set_option maxHeartbeats 8000000 in
set_option maxRecDepth 100000 in
theorem Gen_f48 (A0 : Option Addr) (c0 : Nat) (l : List Int) (S : ByteArray) (Y mo d h mi n a : Int) (c : Nat) (R4 R5 R6 : ByteArray) (w : World) (hr0 : Kd.C (Kd.int .u8) w A0 l.length l) (hS : S = strOfNums l) (x1 : dg4 S = true) (ev : Y = dv4 S) (z0 : dg2 (dr4 S) = true) (z1 : dg2 (dr2 (dr4 S)) = true) (z2 : dg2 (dr2 (dr2 (dr4 S))) = true) (z3 : dg2 (dr2 (dr2 (dr2 (dr4 S)))) = true) (e1 : mo = dv2 (dr4 S)) (e2 : d = dv2 (dr2 (dr4 S))) (e3 : h = dv2 (dr2 (dr2 (dr4 S)))) (e4 : mi = dv2 (dr2 (dr2 (dr2 (dr4 S))))) (e5 : R4 = dr2 (dr2 (dr2 (dr2 (dr4 S))))) (x3 : dateB Y mo d h mi = true) (x4 : dg2 R4 = true) (e6 : n = dv2 R4) (e7 : R5 = dr2 R4) (x5 : n < 60) (x8 : 0 < R5.size) (x9 : bt R5 0 = 46) (c1 : 1 ≤ c) (c2 : c ≤ R5.size) (c3 : ∀ j : Nat, 1 ≤ j → j < c → 48 ≤ bt R5 (j : Int) ∧ bt R5 (j : Int) ≤ 57) (c4 : c = R5.size ∨ bt R5 (c : Int) < 48 ∨ 57 < bt R5 (c : Int)) (ce : R5.size ≤ 4611686018427387904) (c5 : 1 < c) (c6 : c ≤ 10) (c7 : bt R5 ((c : Int) - 1) = 48) :
    Calls Try.prog 85 #[.slice A0 l.length c0] w (PBad w) := by
  have bY := dv4_range x1
  rw [← ev] at bY
  have bn := dv2_range x4
  rw [← e6] at bn
  have X1' := Aside0.mk x1
  have EV' := Aside0.mk ev
  have Z0' := Aside0.mk z0
  have Z1' := Aside0.mk z1
  have Z2' := Aside0.mk z2
  have Z3' := Aside0.mk z3
  have E1' := Aside0.mk e1
  have E2' := Aside0.mk e2
  have E3' := Aside0.mk e3
  have E4' := Aside0.mk e4
  have E5' := Aside0.mk e5
  have X3' := Aside0.mk x3
  have X4' := Aside0.mk x4
  have E6' := Aside0.mk e6
  have E7' := Aside0.mk e7
  have X5' := Aside0.mk x5
  have X8' := Aside0.mk x8
  have X9' := Aside0.mk x9
  have C1' := Aside0.mk c1
  have C2' := Aside0.mk c2
  have C3' := Aside0.mk c3
  have C4' := Aside0.mk c4
  have CE' := Aside0.mk ce
  have C5' := Aside0.mk c5
  have C6' := Aside0.mk c6
  have C7' := Aside0.mk c7
  have t60 : decide (60 ≤ n) = false := decide_eq_false (by omega)
  have tz : decide (0 < (R5.size : Int)) = true := decide_eq_true (by omega)
  have tzn : decide (0 < R5.size) = true := decide_eq_true (by omega)
  have tq : ((0 : Int) < (R5.size : Int)) = True := eq_true (by omega)
  have tqn : (0 < R5.size) = True := eq_true (by omega)
  have hx0 : ∀ h : 0 < R5.size, ((R5[0]'h).toNat : Int) = bt R5 0 := bt_at R5 0
  have t46 : (bt R5 0 == 46) = true := beq_iff_eq.mpr x9
  have HR0 := Aside0.mk hr0
  have HS := Aside0.mk hS
  have HB0 := Aside0.mk (Below.refl w.heap.size w)
  clear hr0 hS x1 ev z0 z1 z2 z3 e1 e2 e3 e4 e5 x3 x4 e6 e7 x5 x8 x9 c1 c2 c3 c4 ce c5 c6 c7
  go_enter Try.func85, Try.ntmps85
  go_upto_block 0 with (first
    | ((with_reducible refine gate_dst (N := 2) rfl ?_); refine box_event ?hg (N := 2) ?hd (cs := #[.int .i64 0, .int .i64 0, .int .i64 0, .int .i64 0, .int .i64 0, .int .i64 0, .int .i64 0, .int .i64 0]) (t := 87) ?hr ?_; (case hd => rfl); (case hg => rfl); (case hr => first | (go_simp; done) | (go_simp; rfl)); intro g2 hg w1 hbox hb; have BR1 := Aside0.mk hbox; have HB1 := Aside0.mk (below_step HB0.out hb); have GR := Aside0.mk (show w.heap.size ≤ g2 by rw [hg]; exact Nat.le_refl _); clear hbox hb hg)
    | (go_at_call 97; (with_reducible refine (errors_New_any _ _).mono ?_); rintro e w2 ⟨T, x, rfl, hb⟩; have BR2 := Aside0.mk (blk_below BR1.out hb); have HB2 := Aside0.mk (below_step HB1.out hb); have hcv := Kd.C_string (P := Try.prog) (A := A0) (c := c0) Try.underlying25 Try.underlying5 Try.underlying9 (Kd.C_below HR0.out HB2.out); rw [← HS.out] at hcv; clear hb)
    | (go_at_call 98; (with_reducible refine (dig4_yes S _ X1'.out).mono ?_); rw [← EV'.out]; rintro e w3 ⟨rfl, ⟨n1, rfl⟩⟩; clear hcv)
    | (go_at_call 99; (with_reducible refine (zzDate_yes Y mo d h mi (dr4 S) _ Z0'.out Z1'.out Z2'.out Z3'.out E1'.out E2'.out E3'.out E4'.out).mono ?_); rw [X3'.out, ← E5'.out]; rintro e w3 ⟨rfl, hb⟩; have BR3 := Aside0.mk (blk_below (blk_drewN BR2.out n1) hb); have HB3 := Aside0.mk (below_step (pw_below_drewN HB2.out n1) hb); clear hb)
    | ((with_reducible refine gate_dst (N := 8) rfl ?_); refine box_event ?hg (N := 8) ?hd (cs := #[.int .i64 0, .int .i64 0, .int .i64 0, .int .i64 0, .int .i64 0, .int .i64 0, .int .i64 0, .int .i64 0]) (t := 87) ?hr ?_; (case hd => rfl); (case hg => rfl); (case hr => first | (go_simp; done) | (go_simp; rfl)); intro g8 hg w4 hbox hb; have BR4 := Aside0.mk (blk_below BR3.out hb); have HB4 := Aside0.mk (below_step HB3.out hb); have BT4 := Aside0.mk hbox; have GT := Aside0.mk (show w.heap.size ≤ g8 by rw [hg]; exact below_size HB3.out); have NE := Aside0.mk (show g2 ≠ g8 by rw [hg]; exact Nat.ne_of_lt (blk_lt BR3.out)); have ct0 := (blk_cell BT4.out 0).trans (show _ = some (.int .i64 0) from rfl); have ctf0 := blk_frozen BT4.out 0; have ct1 := (blk_cell BT4.out 1).trans (show _ = some (.int .i64 0) from rfl); have ctf1 := blk_frozen BT4.out 1; have ct2 := (blk_cell BT4.out 2).trans (show _ = some (.int .i64 0) from rfl); have ctf2 := blk_frozen BT4.out 2; have ct3 := (blk_cell BT4.out 3).trans (show _ = some (.int .i64 0) from rfl); have ctf3 := blk_frozen BT4.out 3; have ct4 := (blk_cell BT4.out 4).trans (show _ = some (.int .i64 0) from rfl); have ctf4 := blk_frozen BT4.out 4; have ct5 := (blk_cell BT4.out 5).trans (show _ = some (.int .i64 0) from rfl); have ctf5 := blk_frozen BT4.out 5; have ct6 := (blk_cell BT4.out 6).trans (show _ = some (.int .i64 0) from rfl); have ctf6 := blk_frozen BT4.out 6; have ct7 := (blk_cell BT4.out 7).trans (show _ = some (.int .i64 0) from rfl); have ctf7 := blk_frozen BT4.out 7; clear hbox hb hg)
    | ((with_reducible refine gate_store (t := 87) (p := 8) rfl ?_); refine store_event (t := 87) (p := 8) (v := ?vo8) (w1 := put8 (w4) g8 (.int .i64 Y) (.int .i64 mo) (.int .i64 d) (.int .i64 h) (.int .i64 mi) (.int .i64 0) (.int .i64 0) (.int .i64 0)) ?hg ?ho ?hn ?hr ?_; (case ho => rfl); (case hg => rfl); (case hn => rfl); (case hr => first | (go_simp; done) | (go_simp; rfl)); intro w5 hw; have BT5 := Aside0.mk (show w5.heap[g8]? = some (.cells #[.int .i64 Y, .int .i64 mo, .int .i64 d, .int .i64 h, .int .i64 mi, .int .i64 0, .int .i64 0, .int .i64 0] 87 (0, 0)) from by rw [hw]; exact put8_blk BT4.out (.int .i64 Y) (.int .i64 mo) (.int .i64 d) (.int .i64 h) (.int .i64 mi) (.int .i64 0) (.int .i64 0) (.int .i64 0)); have BR5 := Aside0.mk (show w5.heap[g2]? = some (.cells #[.int .i64 0, .int .i64 0, .int .i64 0, .int .i64 0, .int .i64 0, .int .i64 0, .int .i64 0, .int .i64 0] 87 (0, 0)) from by rw [hw]; exact blk_grown BR4.out (put8_grown w4 g8 (.int .i64 Y) (.int .i64 mo) (.int .i64 d) (.int .i64 h) (.int .i64 mi) (.int .i64 0) (.int .i64 0) (.int .i64 0)) (fun e => NE.out (by injection e))); have HB5 := Aside0.mk (show Below w.heap.size w w5 from by rw [hw]; exact HB4.out.grown (put8_grown w4 g8 (.int .i64 Y) (.int .i64 mo) (.int .i64 d) (.int .i64 h) (.int .i64 mi) (.int .i64 0) (.int .i64 0) (.int .i64 0)) (below_size HB4.out) (fun q hq => by cases hq; exact GT.out)); clear ct0 ctf0 ct1 ctf1 ct2 ctf2 ct3 ctf3 ct4 ctf4 ct5 ctf5 ct6 ctf6 ct7 ctf7; have ct0 := (blk_cell BT5.out 0).trans (show _ = some (.int .i64 Y) from rfl); have ctf0 := blk_frozen BT5.out 0; have ct1 := (blk_cell BT5.out 1).trans (show _ = some (.int .i64 mo) from rfl); have ctf1 := blk_frozen BT5.out 1; have ct2 := (blk_cell BT5.out 2).trans (show _ = some (.int .i64 d) from rfl); have ctf2 := blk_frozen BT5.out 2; have ct3 := (blk_cell BT5.out 3).trans (show _ = some (.int .i64 h) from rfl); have ctf3 := blk_frozen BT5.out 3; have ct4 := (blk_cell BT5.out 4).trans (show _ = some (.int .i64 mi) from rfl); have ctf4 := blk_frozen BT5.out 4; have ct5 := (blk_cell BT5.out 5).trans (show _ = some (.int .i64 0) from rfl); have ctf5 := blk_frozen BT5.out 5; have ct6 := (blk_cell BT5.out 6).trans (show _ = some (.int .i64 0) from rfl); have ctf6 := blk_frozen BT5.out 6; have ct7 := (blk_cell BT5.out 7).trans (show _ = some (.int .i64 0) from rfl); have ctf7 := blk_frozen BT5.out 7; have cr0 := (blk_cell BR5.out 0).trans (show _ = some (.int .i64 0) from rfl); have crf0 := blk_frozen BR5.out 0; have cr1 := (blk_cell BR5.out 1).trans (show _ = some (.int .i64 0) from rfl); have crf1 := blk_frozen BR5.out 1; have cr2 := (blk_cell BR5.out 2).trans (show _ = some (.int .i64 0) from rfl); have crf2 := blk_frozen BR5.out 2; have cr3 := (blk_cell BR5.out 3).trans (show _ = some (.int .i64 0) from rfl); have crf3 := blk_frozen BR5.out 3; have cr4 := (blk_cell BR5.out 4).trans (show _ = some (.int .i64 0) from rfl); have crf4 := blk_frozen BR5.out 4; have cr5 := (blk_cell BR5.out 5).trans (show _ = some (.int .i64 0) from rfl); have crf5 := blk_frozen BR5.out 5; have cr6 := (blk_cell BR5.out 6).trans (show _ = some (.int .i64 0) from rfl); have crf6 := blk_frozen BR5.out 6; have cr7 := (blk_cell BR5.out 7).trans (show _ = some (.int .i64 0) from rfl); have crf7 := blk_frozen BR5.out 7; clear hw)
    | (go_at_call 98; (with_reducible refine (dig2_yes R4 _ X4'.out).mono ?_); rw [← E6'.out, ← E7'.out]; rintro e wq ⟨rfl, ⟨n5, rfl⟩⟩)
    | ((with_reducible refine gate_store (t := 3) (p := 40) rfl ?_); refine store_event (t := 3) (p := 40) (v := ?vo40) (w1 := (w5.setCell ⟨g8, 5, none⟩ (.int .i64 n)).drewN n5) ?hg ?ho ?hn ?hr ?_; (case ho => rfl); (case hg => rfl); (case hn => rfl); (case hr => first | (go_simp; done) | (go_simp; rfl)); intro w6 hw; have BT6 := Aside0.mk (show w6.heap[g8]? = some (.cells #[.int .i64 Y, .int .i64 mo, .int .i64 d, .int .i64 h, .int .i64 mi, .int .i64 n, .int .i64 0, .int .i64 0] 87 (0, 0)) from by rw [hw]; exact blk_drewN (blk_put (cs := #[.int .i64 Y, .int .i64 mo, .int .i64 d, .int .i64 h, .int .i64 mi, .int .i64 0, .int .i64 0, .int .i64 0]) BT5.out 5 _ rfl) _); have BR6 := Aside0.mk (show w6.heap[g2]? = some (.cells #[.int .i64 0, .int .i64 0, .int .i64 0, .int .i64 0, .int .i64 0, .int .i64 0, .int .i64 0, .int .i64 0] 87 (0, 0)) from by rw [hw]; exact blk_drewN (blk_far BR5.out NE.out _) _); have HB6 := Aside0.mk (show Below w.heap.size w w6 from by rw [hw]; exact pw_below_drewN (below_set HB5.out GT.out) _); clear ct0 ctf0 ct1 ctf1 ct2 ctf2 ct3 ctf3 ct4 ctf4 ct5 ctf5 ct6 ctf6 ct7 ctf7; have ct0 := (blk_cell BT6.out 0).trans (show _ = some (.int .i64 Y) from rfl); have ctf0 := blk_frozen BT6.out 0; have ct1 := (blk_cell BT6.out 1).trans (show _ = some (.int .i64 mo) from rfl); have ctf1 := blk_frozen BT6.out 1; have ct2 := (blk_cell BT6.out 2).trans (show _ = some (.int .i64 d) from rfl); have ctf2 := blk_frozen BT6.out 2; have ct3 := (blk_cell BT6.out 3).trans (show _ = some (.int .i64 h) from rfl); have ctf3 := blk_frozen BT6.out 3; have ct4 := (blk_cell BT6.out 4).trans (show _ = some (.int .i64 mi) from rfl); have ctf4 := blk_frozen BT6.out 4; have ct5 := (blk_cell BT6.out 5).trans (show _ = some (.int .i64 n) from rfl); have ctf5 := blk_frozen BT6.out 5; have ct6 := (blk_cell BT6.out 6).trans (show _ = some (.int .i64 0) from rfl); have ctf6 := blk_frozen BT6.out 6; have ct7 := (blk_cell BT6.out 7).trans (show _ = some (.int .i64 0) from rfl); have ctf7 := blk_frozen BT6.out 7; clear cr0 crf0 cr1 crf1 cr2 crf2 cr3 crf3 cr4 crf4 cr5 crf5 cr6 crf6 cr7 crf7; have cr0 := (blk_cell BR6.out 0).trans (show _ = some (.int .i64 0) from rfl); have crf0 := blk_frozen BR6.out 0; have cr1 := (blk_cell BR6.out 1).trans (show _ = some (.int .i64 0) from rfl); have crf1 := blk_frozen BR6.out 1; have cr2 := (blk_cell BR6.out 2).trans (show _ = some (.int .i64 0) from rfl); have crf2 := blk_frozen BR6.out 2; have cr3 := (blk_cell BR6.out 3).trans (show _ = some (.int .i64 0) from rfl); have crf3 := blk_frozen BR6.out 3; have cr4 := (blk_cell BR6.out 4).trans (show _ = some (.int .i64 0) from rfl); have crf4 := blk_frozen BR6.out 4; have cr5 := (blk_cell BR6.out 5).trans (show _ = some (.int .i64 0) from rfl); have crf5 := blk_frozen BR6.out 5; have cr6 := (blk_cell BR6.out 6).trans (show _ = some (.int .i64 0) from rfl); have crf6 := blk_frozen BR6.out 6; have cr7 := (blk_cell BR6.out 7).trans (show _ = some (.int .i64 0) from rfl); have crf7 := blk_frozen BR6.out 7; clear hw))
  (try simp only [Act.put, List.setIfInBounds_toArray, List.set_cons_zero, List.set_cons_succ])
  clear t60 tz tzn hx0 t46 tq tqn
  go_cut [9] (fun v9 wc => v9 = .int .i64 (c : Int) ∧ w6 = wc)
  case first =>
    have hcs : c ≤ R5.size := C2'.out
    have hce : R5.size ≤ 4611686018427387904 := CE'.out
    go_wp2
    go_loopw [9] (fun v9 wr => ∃ k : Nat, v9 = .int .i64 (k : Int) ∧ Aside0 (1 ≤ k ∧ k ≤ c) ∧ w6 = wr) (fun v9 _ => c - (intOf v9).toNat)
    case atStart => exact ⟨1, rfl, ⟨Nat.le_refl _, C1'.out⟩, rfl⟩
    case round =>
      obtain ⟨k, rfl, HK, rfl⟩ := hrel
      have hk1 : 1 ≤ k := HK.out.1
      have hkc : k ≤ c := HK.out.2
      have hxk : ∀ h : k < R5.size, ((R5[k]'h).toNat : Int) = bt R5 (k : Int) := bt_at R5 k
      have out_ : ∀ b : Nat, b = c → True := fun _ _ => trivial
      clear out_
      rcases Nat.lt_or_ge k c with hlt | hge
      · have tl : decide ((k : Int) < (R5.size : Int)) = true := decide_eq_true (by omega)
        have tlq : ((k : Int) < (R5.size : Int)) = True := eq_true (by omega)
        have tlqn : (k < R5.size) = True := eq_true (by omega)
        have tln : decide (k < R5.size) = true := decide_eq_true (by omega)
        have t48 : decide (48 ≤ bt R5 (k : Int)) = true := decide_eq_true (C3'.out k hk1 hlt).1
        have t57 : decide (bt R5 (k : Int) ≤ 57) = true := decide_eq_true (C3'.out k hk1 hlt).2
        go_wp2
        go_roundw
        case rel => exact ⟨k + 1, by go_num, ⟨by omega, by omega⟩, by first | trivial | rfl⟩
        case measure => simp [intOf]; omega
      · have hkeq : k = c := Nat.le_antisymm hkc hge
        have HKE := Aside0.mk hkeq
        clear hkeq
        rcases C4'.out with h | h | h
        · have tl : decide ((k : Int) < (R5.size : Int)) = false := decide_eq_false (by have := HKE.out; omega)
          have tln : decide (k < R5.size) = false := decide_eq_false (by have := HKE.out; omega)
          clear h
          go_wp2
          go_meet
          case rel => exact ⟨by rw [HKE.out], rfl⟩
        · rcases Nat.lt_or_ge k R5.size with hls | hls
          case inr =>
            have tl : decide ((k : Int) < (R5.size : Int)) = false := decide_eq_false (by omega)
            have tln : decide (k < R5.size) = false := decide_eq_false (by omega)
            clear h
            go_wp2
            go_meet
            case rel => exact ⟨by rw [HKE.out], rfl⟩
          rw [← HKE.out] at h
          have tl : decide ((k : Int) < (R5.size : Int)) = true := decide_eq_true (by omega)
          have tlq : ((k : Int) < (R5.size : Int)) = True := eq_true (by omega)
          have tlqn : (k < R5.size) = True := eq_true (by omega)
          have tln : decide (k < R5.size) = true := decide_eq_true (by omega)
          have t48 : decide (48 ≤ bt R5 (k : Int)) = false := decide_eq_false (by omega)
          clear h
          go_wp2
          go_meet
          case rel => exact ⟨by rw [HKE.out], rfl⟩
        · rcases Nat.lt_or_ge k R5.size with hls | hls
          case inr =>
            have tl : decide ((k : Int) < (R5.size : Int)) = false := decide_eq_false (by omega)
            have tln : decide (k < R5.size) = false := decide_eq_false (by omega)
            clear h
            go_wp2
            go_meet
            case rel => exact ⟨by rw [HKE.out], rfl⟩
          rw [← HKE.out] at h
          have tl : decide ((k : Int) < (R5.size : Int)) = true := decide_eq_true (by omega)
          have tlq : ((k : Int) < (R5.size : Int)) = True := eq_true (by omega)
          have tlqn : (k < R5.size) = True := eq_true (by omega)
          have tln : decide (k < R5.size) = true := decide_eq_true (by omega)
          have t48 : decide (48 ≤ bt R5 (k : Int)) = true := decide_eq_true (by omega)
          have t57 : decide (bt R5 (k : Int) ≤ 57) = false := decide_eq_false (by omega)
          clear h
          go_wp2
          go_meet
          case rel => exact ⟨by rw [HKE.out], rfl⟩
  case rest =>
    obtain ⟨rfl, rfl⟩ := hcut
    have hc1 : 1 ≤ c := C1'.out
    have hcs : c ≤ R5.size := C2'.out
    have hce : R5.size ≤ 4611686018427387904 := CE'.out
    have hc5 : 1 < c := by have := C5'.out; omega
    have t1 : ((c : Int) == 1) = false := beq_eq_false_iff_ne.mpr (by omega)
    have hc6 : c ≤ 10 := C6'.out
    have t10 : decide (10 < (c : Int)) = false := decide_eq_false (by omega)
    have hxl : ∀ h : c - 1 < R5.size, ((R5[c - 1]'h).toNat : Int) = bt R5 ((c : Int) - 1) := by
      have h9 := bt_at R5 ((c : Int) - 1)
      rw [show ((c : Int) - 1).toNat = c - 1 by omega] at h9
      exact h9
    have tp : ((0 : Int) ≤ (c : Int) - 1) = True := eq_true (by omega)
    have tp2 : ((c : Int) - 1 < (R5.size : Int)) = True := eq_true (by omega)
    have tp3 : (c - 1 < R5.size) = True := eq_true (by omega)
    have t48 : (bt R5 ((c : Int) - 1) == 48) = true := beq_iff_eq.mpr C7'.out
    go_wp2_with (first
      | ((with_reducible refine gate_store (t := 87) (p := 2) rfl ?_); refine store_event (t := 87) (p := 2) (v := ?vo2) (w1 := (put8 w6 g2 (.int .i64 0) (.int .i64 0) (.int .i64 0) (.int .i64 0) (.int .i64 0) (.int .i64 0) (.int .i64 0) (.int .i64 0))) ?hg ?ho ?hn ?hr ?_; (case ho => rfl); (case hg => rfl); (case hn => rfl); (case hr => first | (go_simp; done) | (go_simp; rfl)); intro w9 hw; have BX := Aside0.mk (show w9.heap[g2]? = some (.cells #[.int .i64 0, .int .i64 0, .int .i64 0, .int .i64 0, .int .i64 0, .int .i64 0, .int .i64 0, .int .i64 0] 87 (0, 0)) from by rw [hw]; exact put8_blk BR6.out (.int .i64 0) (.int .i64 0) (.int .i64 0) (.int .i64 0) (.int .i64 0) (.int .i64 0) (.int .i64 0) (.int .i64 0)); have HX := Aside0.mk (show Below w.heap.size w w9 from by rw [hw]; exact HB6.out.grown (put8_grown w6 g2 (.int .i64 0) (.int .i64 0) (.int .i64 0) (.int .i64 0) (.int .i64 0) (.int .i64 0) (.int .i64 0) (.int .i64 0)) (below_size HB6.out) (fun q hq => by cases hq; exact GR.out)); clear hw))
    refine bodyPost_ret (results_ct rfl _ _ g2 87 #[.int .i64 0, .int .i64 0, .int .i64 0, .int .i64 0, .int .i64 0, .int .i64 0, .int .i64 0, .int .i64 0] (0, 0) _ rfl BX.out Try.underlying87 rfl (by kernel_rfl)) rfl ?_
    exact ⟨T, x, rfl, HX.out⟩
set_option maxHeartbeats 8000000 in
set_option maxRecDepth 100000 in
theorem Gen_z1 (A0 : Option Addr) (c0 : Nat) (l : List Int) (S : ByteArray) (Y mo d h mi n a : Int) (c : Nat) (R4 R5 R6 : ByteArray) (w : World) (hr0 : Kd.C (Kd.int .u8) w A0 l.length l) (hS : S = strOfNums l) (x1 : dg4 S = true) (ev : Y = dv4 S) (z0 : dg2 (dr4 S) = true) (z1 : dg2 (dr2 (dr4 S)) = true) (z2 : dg2 (dr2 (dr2 (dr4 S))) = true) (z3 : dg2 (dr2 (dr2 (dr2 (dr4 S)))) = true) (e1 : mo = dv2 (dr4 S)) (e2 : d = dv2 (dr2 (dr4 S))) (e3 : h = dv2 (dr2 (dr2 (dr4 S)))) (e4 : mi = dv2 (dr2 (dr2 (dr2 (dr4 S))))) (e5 : R4 = dr2 (dr2 (dr2 (dr2 (dr4 S))))) (x3 : dateB Y mo d h mi = true) (x4 : dg2 R4 = true) (e6 : n = dv2 R4) (e7 : R5 = dr2 R4) (x5 : n < 60) (x8 : 0 < R5.size) (x9 : bt R5 0 = 46) (c1 : 1 ≤ c) (c2 : c ≤ R5.size) (c3 : ∀ j : Nat, 1 ≤ j → j < c → 48 ≤ bt R5 (j : Int) ∧ bt R5 (j : Int) ≤ 57) (c4 : c = R5.size ∨ bt R5 (c : Int) < 48 ∨ 57 < bt R5 (c : Int)) (ce : R5.size ≤ 4611686018427387904) (c5 : 1 < c) (c6 : c ≤ 10) (c7 : bt R5 ((c : Int) - 1) ≠ 48) (e9 : R6 = R5.extract c R5.size) (x6 : zO R6 = false) :
    Calls Try.prog 85 #[.slice A0 l.length c0] w (PBad w) := by
  have bY := dv4_range x1
  rw [← ev] at bY
  have bn := dv2_range x4
  rw [← e6] at bn
  have X1' := Aside0.mk x1
  have EV' := Aside0.mk ev
  have Z0' := Aside0.mk z0
  have Z1' := Aside0.mk z1
  have Z2' := Aside0.mk z2
  have Z3' := Aside0.mk z3
  have E1' := Aside0.mk e1
  have E2' := Aside0.mk e2
  have E3' := Aside0.mk e3
  have E4' := Aside0.mk e4
  have E5' := Aside0.mk e5
  have X3' := Aside0.mk x3
  have X4' := Aside0.mk x4
  have E6' := Aside0.mk e6
  have E7' := Aside0.mk e7
  have X5' := Aside0.mk x5
  have X8' := Aside0.mk x8
  have X9' := Aside0.mk x9
  have C1' := Aside0.mk c1
  have C2' := Aside0.mk c2
  have C3' := Aside0.mk c3
  have C4' := Aside0.mk c4
  have CE' := Aside0.mk ce
  have C5' := Aside0.mk c5
  have C6' := Aside0.mk c6
  have C7' := Aside0.mk c7
  have E9' := Aside0.mk e9
  have X6' := Aside0.mk x6
  have t60 : decide (60 ≤ n) = false := decide_eq_false (by omega)
  have tz : decide (0 < (R5.size : Int)) = true := decide_eq_true (by omega)
  have tzn : decide (0 < R5.size) = true := decide_eq_true (by omega)
  have tq : ((0 : Int) < (R5.size : Int)) = True := eq_true (by omega)
  have tqn : (0 < R5.size) = True := eq_true (by omega)
  have hx0 : ∀ h : 0 < R5.size, ((R5[0]'h).toNat : Int) = bt R5 0 := bt_at R5 0
  have t46 : (bt R5 0 == 46) = true := beq_iff_eq.mpr x9
  have HR0 := Aside0.mk hr0
  have HS := Aside0.mk hS
  have HB0 := Aside0.mk (Below.refl w.heap.size w)
  clear hr0 hS x1 ev z0 z1 z2 z3 e1 e2 e3 e4 e5 x3 x4 e6 e7 x5 x8 x9 c1 c2 c3 c4 ce c5 c6 c7 e9 x6
  go_enter Try.func85, Try.ntmps85
  go_upto_block 0 with (first
    | ((with_reducible refine gate_dst (N := 2) rfl ?_); refine box_event ?hg (N := 2) ?hd (cs := #[.int .i64 0, .int .i64 0, .int .i64 0, .int .i64 0, .int .i64 0, .int .i64 0, .int .i64 0, .int .i64 0]) (t := 87) ?hr ?_; (case hd => rfl); (case hg => rfl); (case hr => first | (go_simp; done) | (go_simp; rfl)); intro g2 hg w1 hbox hb; have BR1 := Aside0.mk hbox; have HB1 := Aside0.mk (below_step HB0.out hb); have GR := Aside0.mk (show w.heap.size ≤ g2 by rw [hg]; exact Nat.le_refl _); clear hbox hb hg)
    | (go_at_call 97; (with_reducible refine (errors_New_any _ _).mono ?_); rintro e w2 ⟨T, x, rfl, hb⟩; have BR2 := Aside0.mk (blk_below BR1.out hb); have HB2 := Aside0.mk (below_step HB1.out hb); have hcv := Kd.C_string (P := Try.prog) (A := A0) (c := c0) Try.underlying25 Try.underlying5 Try.underlying9 (Kd.C_below HR0.out HB2.out); rw [← HS.out] at hcv; clear hb)
    | (go_at_call 98; (with_reducible refine (dig4_yes S _ X1'.out).mono ?_); rw [← EV'.out]; rintro e w3 ⟨rfl, ⟨n1, rfl⟩⟩; clear hcv)
    | (go_at_call 99; (with_reducible refine (zzDate_yes Y mo d h mi (dr4 S) _ Z0'.out Z1'.out Z2'.out Z3'.out E1'.out E2'.out E3'.out E4'.out).mono ?_); rw [X3'.out, ← E5'.out]; rintro e w3 ⟨rfl, hb⟩; have BR3 := Aside0.mk (blk_below (blk_drewN BR2.out n1) hb); have HB3 := Aside0.mk (below_step (pw_below_drewN HB2.out n1) hb); clear hb)
    | ((with_reducible refine gate_dst (N := 8) rfl ?_); refine box_event ?hg (N := 8) ?hd (cs := #[.int .i64 0, .int .i64 0, .int .i64 0, .int .i64 0, .int .i64 0, .int .i64 0, .int .i64 0, .int .i64 0]) (t := 87) ?hr ?_; (case hd => rfl); (case hg => rfl); (case hr => first | (go_simp; done) | (go_simp; rfl)); intro g8 hg w4 hbox hb; have BR4 := Aside0.mk (blk_below BR3.out hb); have HB4 := Aside0.mk (below_step HB3.out hb); have BT4 := Aside0.mk hbox; have GT := Aside0.mk (show w.heap.size ≤ g8 by rw [hg]; exact below_size HB3.out); have NE := Aside0.mk (show g2 ≠ g8 by rw [hg]; exact Nat.ne_of_lt (blk_lt BR3.out)); have ct0 := (blk_cell BT4.out 0).trans (show _ = some (.int .i64 0) from rfl); have ctf0 := blk_frozen BT4.out 0; have ct1 := (blk_cell BT4.out 1).trans (show _ = some (.int .i64 0) from rfl); have ctf1 := blk_frozen BT4.out 1; have ct2 := (blk_cell BT4.out 2).trans (show _ = some (.int .i64 0) from rfl); have ctf2 := blk_frozen BT4.out 2; have ct3 := (blk_cell BT4.out 3).trans (show _ = some (.int .i64 0) from rfl); have ctf3 := blk_frozen BT4.out 3; have ct4 := (blk_cell BT4.out 4).trans (show _ = some (.int .i64 0) from rfl); have ctf4 := blk_frozen BT4.out 4; have ct5 := (blk_cell BT4.out 5).trans (show _ = some (.int .i64 0) from rfl); have ctf5 := blk_frozen BT4.out 5; have ct6 := (blk_cell BT4.out 6).trans (show _ = some (.int .i64 0) from rfl); have ctf6 := blk_frozen BT4.out 6; have ct7 := (blk_cell BT4.out 7).trans (show _ = some (.int .i64 0) from rfl); have ctf7 := blk_frozen BT4.out 7; clear hbox hb hg)
    | ((with_reducible refine gate_store (t := 87) (p := 8) rfl ?_); refine store_event (t := 87) (p := 8) (v := ?vo8) (w1 := put8 (w4) g8 (.int .i64 Y) (.int .i64 mo) (.int .i64 d) (.int .i64 h) (.int .i64 mi) (.int .i64 0) (.int .i64 0) (.int .i64 0)) ?hg ?ho ?hn ?hr ?_; (case ho => rfl); (case hg => rfl); (case hn => rfl); (case hr => first | (go_simp; done) | (go_simp; rfl)); intro w5 hw; have BT5 := Aside0.mk (show w5.heap[g8]? = some (.cells #[.int .i64 Y, .int .i64 mo, .int .i64 d, .int .i64 h, .int .i64 mi, .int .i64 0, .int .i64 0, .int .i64 0] 87 (0, 0)) from by rw [hw]; exact put8_blk BT4.out (.int .i64 Y) (.int .i64 mo) (.int .i64 d) (.int .i64 h) (.int .i64 mi) (.int .i64 0) (.int .i64 0) (.int .i64 0)); have BR5 := Aside0.mk (show w5.heap[g2]? = some (.cells #[.int .i64 0, .int .i64 0, .int .i64 0, .int .i64 0, .int .i64 0, .int .i64 0, .int .i64 0, .int .i64 0] 87 (0, 0)) from by rw [hw]; exact blk_grown BR4.out (put8_grown w4 g8 (.int .i64 Y) (.int .i64 mo) (.int .i64 d) (.int .i64 h) (.int .i64 mi) (.int .i64 0) (.int .i64 0) (.int .i64 0)) (fun e => NE.out (by injection e))); have HB5 := Aside0.mk (show Below w.heap.size w w5 from by rw [hw]; exact HB4.out.grown (put8_grown w4 g8 (.int .i64 Y) (.int .i64 mo) (.int .i64 d) (.int .i64 h) (.int .i64 mi) (.int .i64 0) (.int .i64 0) (.int .i64 0)) (below_size HB4.out) (fun q hq => by cases hq; exact GT.out)); clear ct0 ctf0 ct1 ctf1 ct2 ctf2 ct3 ctf3 ct4 ctf4 ct5 ctf5 ct6 ctf6 ct7 ctf7; have ct0 := (blk_cell BT5.out 0).trans (show _ = some (.int .i64 Y) from rfl); have ctf0 := blk_frozen BT5.out 0; have ct1 := (blk_cell BT5.out 1).trans (show _ = some (.int .i64 mo) from rfl); have ctf1 := blk_frozen BT5.out 1; have ct2 := (blk_cell BT5.out 2).trans (show _ = some (.int .i64 d) from rfl); have ctf2 := blk_frozen BT5.out 2; have ct3 := (blk_cell BT5.out 3).trans (show _ = some (.int .i64 h) from rfl); have ctf3 := blk_frozen BT5.out 3; have ct4 := (blk_cell BT5.out 4).trans (show _ = some (.int .i64 mi) from rfl); have ctf4 := blk_frozen BT5.out 4; have ct5 := (blk_cell BT5.out 5).trans (show _ = some (.int .i64 0) from rfl); have ctf5 := blk_frozen BT5.out 5; have ct6 := (blk_cell BT5.out 6).trans (show _ = some (.int .i64 0) from rfl); have ctf6 := blk_frozen BT5.out 6; have ct7 := (blk_cell BT5.out 7).trans (show _ = some (.int .i64 0) from rfl); have ctf7 := blk_frozen BT5.out 7; have cr0 := (blk_cell BR5.out 0).trans (show _ = some (.int .i64 0) from rfl); have crf0 := blk_frozen BR5.out 0; have cr1 := (blk_cell BR5.out 1).trans (show _ = some (.int .i64 0) from rfl); have crf1 := blk_frozen BR5.out 1; have cr2 := (blk_cell BR5.out 2).trans (show _ = some (.int .i64 0) from rfl); have crf2 := blk_frozen BR5.out 2; have cr3 := (blk_cell BR5.out 3).trans (show _ = some (.int .i64 0) from rfl); have crf3 := blk_frozen BR5.out 3; have cr4 := (blk_cell BR5.out 4).trans (show _ = some (.int .i64 0) from rfl); have crf4 := blk_frozen BR5.out 4; have cr5 := (blk_cell BR5.out 5).trans (show _ = some (.int .i64 0) from rfl); have crf5 := blk_frozen BR5.out 5; have cr6 := (blk_cell BR5.out 6).trans (show _ = some (.int .i64 0) from rfl); have crf6 := blk_frozen BR5.out 6; have cr7 := (blk_cell BR5.out 7).trans (show _ = some (.int .i64 0) from rfl); have crf7 := blk_frozen BR5.out 7; clear hw)
    | (go_at_call 98; (with_reducible refine (dig2_yes R4 _ X4'.out).mono ?_); rw [← E6'.out, ← E7'.out]; rintro e wq ⟨rfl, ⟨n5, rfl⟩⟩)
    | ((with_reducible refine gate_store (t := 3) (p := 40) rfl ?_); refine store_event (t := 3) (p := 40) (v := ?vo40) (w1 := (w5.setCell ⟨g8, 5, none⟩ (.int .i64 n)).drewN n5) ?hg ?ho ?hn ?hr ?_; (case ho => rfl); (case hg => rfl); (case hn => rfl); (case hr => first | (go_simp; done) | (go_simp; rfl)); intro w6 hw; have BT6 := Aside0.mk (show w6.heap[g8]? = some (.cells #[.int .i64 Y, .int .i64 mo, .int .i64 d, .int .i64 h, .int .i64 mi, .int .i64 n, .int .i64 0, .int .i64 0] 87 (0, 0)) from by rw [hw]; exact blk_drewN (blk_put (cs := #[.int .i64 Y, .int .i64 mo, .int .i64 d, .int .i64 h, .int .i64 mi, .int .i64 0, .int .i64 0, .int .i64 0]) BT5.out 5 _ rfl) _); have BR6 := Aside0.mk (show w6.heap[g2]? = some (.cells #[.int .i64 0, .int .i64 0, .int .i64 0, .int .i64 0, .int .i64 0, .int .i64 0, .int .i64 0, .int .i64 0] 87 (0, 0)) from by rw [hw]; exact blk_drewN (blk_far BR5.out NE.out _) _); have HB6 := Aside0.mk (show Below w.heap.size w w6 from by rw [hw]; exact pw_below_drewN (below_set HB5.out GT.out) _); clear ct0 ctf0 ct1 ctf1 ct2 ctf2 ct3 ctf3 ct4 ctf4 ct5 ctf5 ct6 ctf6 ct7 ctf7; have ct0 := (blk_cell BT6.out 0).trans (show _ = some (.int .i64 Y) from rfl); have ctf0 := blk_frozen BT6.out 0; have ct1 := (blk_cell BT6.out 1).trans (show _ = some (.int .i64 mo) from rfl); have ctf1 := blk_frozen BT6.out 1; have ct2 := (blk_cell BT6.out 2).trans (show _ = some (.int .i64 d) from rfl); have ctf2 := blk_frozen BT6.out 2; have ct3 := (blk_cell BT6.out 3).trans (show _ = some (.int .i64 h) from rfl); have ctf3 := blk_frozen BT6.out 3; have ct4 := (blk_cell BT6.out 4).trans (show _ = some (.int .i64 mi) from rfl); have ctf4 := blk_frozen BT6.out 4; have ct5 := (blk_cell BT6.out 5).trans (show _ = some (.int .i64 n) from rfl); have ctf5 := blk_frozen BT6.out 5; have ct6 := (blk_cell BT6.out 6).trans (show _ = some (.int .i64 0) from rfl); have ctf6 := blk_frozen BT6.out 6; have ct7 := (blk_cell BT6.out 7).trans (show _ = some (.int .i64 0) from rfl); have ctf7 := blk_frozen BT6.out 7; clear cr0 crf0 cr1 crf1 cr2 crf2 cr3 crf3 cr4 crf4 cr5 crf5 cr6 crf6 cr7 crf7; have cr0 := (blk_cell BR6.out 0).trans (show _ = some (.int .i64 0) from rfl); have crf0 := blk_frozen BR6.out 0; have cr1 := (blk_cell BR6.out 1).trans (show _ = some (.int .i64 0) from rfl); have crf1 := blk_frozen BR6.out 1; have cr2 := (blk_cell BR6.out 2).trans (show _ = some (.int .i64 0) from rfl); have crf2 := blk_frozen BR6.out 2; have cr3 := (blk_cell BR6.out 3).trans (show _ = some (.int .i64 0) from rfl); have crf3 := blk_frozen BR6.out 3; have cr4 := (blk_cell BR6.out 4).trans (show _ = some (.int .i64 0) from rfl); have crf4 := blk_frozen BR6.out 4; have cr5 := (blk_cell BR6.out 5).trans (show _ = some (.int .i64 0) from rfl); have crf5 := blk_frozen BR6.out 5; have cr6 := (blk_cell BR6.out 6).trans (show _ = some (.int .i64 0) from rfl); have crf6 := blk_frozen BR6.out 6; have cr7 := (blk_cell BR6.out 7).trans (show _ = some (.int .i64 0) from rfl); have crf7 := blk_frozen BR6.out 7; clear hw))
  (try simp only [Act.put, List.setIfInBounds_toArray, List.set_cons_zero, List.set_cons_succ])
  clear t60 tz tzn hx0 t46 tq tqn
  go_cut [9] (fun v9 wc => v9 = .int .i64 (c : Int) ∧ w6 = wc)
  case first =>
    have hcs : c ≤ R5.size := C2'.out
    have hce : R5.size ≤ 4611686018427387904 := CE'.out
    go_wp2
    go_loopw [9] (fun v9 wr => ∃ k : Nat, v9 = .int .i64 (k : Int) ∧ Aside0 (1 ≤ k ∧ k ≤ c) ∧ w6 = wr) (fun v9 _ => c - (intOf v9).toNat)
    case atStart => exact ⟨1, rfl, ⟨Nat.le_refl _, C1'.out⟩, rfl⟩
    case round =>
      obtain ⟨k, rfl, HK, rfl⟩ := hrel
      have hk1 : 1 ≤ k := HK.out.1
      have hkc : k ≤ c := HK.out.2
      have hxk : ∀ h : k < R5.size, ((R5[k]'h).toNat : Int) = bt R5 (k : Int) := bt_at R5 k
      have out_ : ∀ b : Nat, b = c → True := fun _ _ => trivial
      clear out_
      rcases Nat.lt_or_ge k c with hlt | hge
      · have tl : decide ((k : Int) < (R5.size : Int)) = true := decide_eq_true (by omega)
        have tlq : ((k : Int) < (R5.size : Int)) = True := eq_true (by omega)
        have tlqn : (k < R5.size) = True := eq_true (by omega)
        have tln : decide (k < R5.size) = true := decide_eq_true (by omega)
        have t48 : decide (48 ≤ bt R5 (k : Int)) = true := decide_eq_true (C3'.out k hk1 hlt).1
        have t57 : decide (bt R5 (k : Int) ≤ 57) = true := decide_eq_true (C3'.out k hk1 hlt).2
        go_wp2
        go_roundw
        case rel => exact ⟨k + 1, by go_num, ⟨by omega, by omega⟩, by first | trivial | rfl⟩
        case measure => simp [intOf]; omega
      · have hkeq : k = c := Nat.le_antisymm hkc hge
        have HKE := Aside0.mk hkeq
        clear hkeq
        rcases C4'.out with h | h | h
        · have tl : decide ((k : Int) < (R5.size : Int)) = false := decide_eq_false (by have := HKE.out; omega)
          have tln : decide (k < R5.size) = false := decide_eq_false (by have := HKE.out; omega)
          clear h
          go_wp2
          go_meet
          case rel => exact ⟨by rw [HKE.out], rfl⟩
        · rcases Nat.lt_or_ge k R5.size with hls | hls
          case inr =>
            have tl : decide ((k : Int) < (R5.size : Int)) = false := decide_eq_false (by omega)
            have tln : decide (k < R5.size) = false := decide_eq_false (by omega)
            clear h
            go_wp2
            go_meet
            case rel => exact ⟨by rw [HKE.out], rfl⟩
          rw [← HKE.out] at h
          have tl : decide ((k : Int) < (R5.size : Int)) = true := decide_eq_true (by omega)
          have tlq : ((k : Int) < (R5.size : Int)) = True := eq_true (by omega)
          have tlqn : (k < R5.size) = True := eq_true (by omega)
          have tln : decide (k < R5.size) = true := decide_eq_true (by omega)
          have t48 : decide (48 ≤ bt R5 (k : Int)) = false := decide_eq_false (by omega)
          clear h
          go_wp2
          go_meet
          case rel => exact ⟨by rw [HKE.out], rfl⟩
        · rcases Nat.lt_or_ge k R5.size with hls | hls
          case inr =>
            have tl : decide ((k : Int) < (R5.size : Int)) = false := decide_eq_false (by omega)
            have tln : decide (k < R5.size) = false := decide_eq_false (by omega)
            clear h
            go_wp2
            go_meet
            case rel => exact ⟨by rw [HKE.out], rfl⟩
          rw [← HKE.out] at h
          have tl : decide ((k : Int) < (R5.size : Int)) = true := decide_eq_true (by omega)
          have tlq : ((k : Int) < (R5.size : Int)) = True := eq_true (by omega)
          have tlqn : (k < R5.size) = True := eq_true (by omega)
          have tln : decide (k < R5.size) = true := decide_eq_true (by omega)
          have t48 : decide (48 ≤ bt R5 (k : Int)) = true := decide_eq_true (by omega)
          have t57 : decide (bt R5 (k : Int) ≤ 57) = false := decide_eq_false (by omega)
          clear h
          go_wp2
          go_meet
          case rel => exact ⟨by rw [HKE.out], rfl⟩
  case rest =>
    obtain ⟨rfl, rfl⟩ := hcut
    have hc1 : 1 ≤ c := C1'.out
    have hcs : c ≤ R5.size := C2'.out
    have hce : R5.size ≤ 4611686018427387904 := CE'.out
    have hc5 : 1 < c := by have := C5'.out; omega
    have t1 : ((c : Int) == 1) = false := beq_eq_false_iff_ne.mpr (by omega)
    have hc6 : c ≤ 10 := C6'.out
    have t10 : decide (10 < (c : Int)) = false := decide_eq_false (by omega)
    have hxl : ∀ h : c - 1 < R5.size, ((R5[c - 1]'h).toNat : Int) = bt R5 ((c : Int) - 1) := by
      have h9 := bt_at R5 ((c : Int) - 1)
      rw [show ((c : Int) - 1).toNat = c - 1 by omega] at h9
      exact h9
    have tp : ((0 : Int) ≤ (c : Int) - 1) = True := eq_true (by omega)
    have tp2 : ((c : Int) - 1 < (R5.size : Int)) = True := eq_true (by omega)
    have tp3 : (c - 1 < R5.size) = True := eq_true (by omega)
    have t48 : (bt R5 ((c : Int) - 1) == 48) = false := beq_eq_false_iff_ne.mpr C7'.out
    go_upto_block 2 with (fail)
    (try simp only [Act.put, List.setIfInBounds_toArray, List.set_cons_zero, List.set_cons_succ])
    clear t1 t10 hxl tp tp2 tp3 t48 ct0 ctf0 cr0 crf0 ct1 ctf1 cr1 crf1 ct2 ctf2 cr2 crf2 ct3 ctf3 cr3 crf3 ct4 ctf4 cr4 crf4 ct5 ctf5 cr5 crf5 ct6 ctf6 cr6 crf6 ct7 ctf7 cr7 crf7
    go_cut [] (fun wc => Aside0 (wc.heap[g8]? = some (.cells #[.int .i64 Y, .int .i64 mo, .int .i64 d, .int .i64 h, .int .i64 mi, .int .i64 n, .int .i64 (frV R5 c 9), .int .i64 0] 87 (0, 0)) ∧ wc.heap[g2]? = some (.cells #[.int .i64 0, .int .i64 0, .int .i64 0, .int .i64 0, .int .i64 0, .int .i64 0, .int .i64 0, .int .i64 0] 87 (0, 0)) ∧ Below w.heap.size w wc))
    case first =>
      go_wp2
      go_loopw [10] (fun v10 wr => ∃ k : Nat, v10 = .int .i64 ((k + 1 : Nat) : Int) ∧ Aside0 (k ≤ 9) ∧ Aside0 (wr.heap[g8]? = some (.cells #[.int .i64 Y, .int .i64 mo, .int .i64 d, .int .i64 h, .int .i64 mi, .int .i64 n, .int .i64 (frV R5 c k), .int .i64 0] 87 (0, 0)) ∧ wr.heap[g2]? = some (.cells #[.int .i64 0, .int .i64 0, .int .i64 0, .int .i64 0, .int .i64 0, .int .i64 0, .int .i64 0, .int .i64 0] 87 (0, 0)) ∧ Below w.heap.size w wr)) (fun v10 _ => 10 - (intOf v10).toNat)
      case atStart => exact ⟨0, rfl, ⟨by omega⟩, ⟨BT6.out, BR6.out, HB6.out⟩⟩
      case round =>
        obtain ⟨k, rfl, HK, HW⟩ := hrel
        generalize wr = wd at HW ⊢
        have hk9 : k ≤ 9 := HK.out
        have bF : 0 ≤ frV R5 c k ∧ frV R5 c k ≤ 1000000000 := frV_range C3'.out k hk9
        obtain ⟨F, hF⟩ : ∃ F, F = frV R5 c k := ⟨_, rfl⟩
        rw [← hF] at bF HW
        have EF := Aside0.mk hF
        clear hF
        have BTd := Aside0.mk HW.out.1
        have BRd := Aside0.mk HW.out.2.1
        have HBd := Aside0.mk HW.out.2.2
        clear HW
        have ct0 := (blk_cell BTd.out 0).trans (show _ = some (.int .i64 Y) from rfl); have ctf0 := blk_frozen BTd.out 0; have ct1 := (blk_cell BTd.out 1).trans (show _ = some (.int .i64 mo) from rfl); have ctf1 := blk_frozen BTd.out 1; have ct2 := (blk_cell BTd.out 2).trans (show _ = some (.int .i64 d) from rfl); have ctf2 := blk_frozen BTd.out 2; have ct3 := (blk_cell BTd.out 3).trans (show _ = some (.int .i64 h) from rfl); have ctf3 := blk_frozen BTd.out 3; have ct4 := (blk_cell BTd.out 4).trans (show _ = some (.int .i64 mi) from rfl); have ctf4 := blk_frozen BTd.out 4; have ct5 := (blk_cell BTd.out 5).trans (show _ = some (.int .i64 n) from rfl); have ctf5 := blk_frozen BTd.out 5; have ct6 := (blk_cell BTd.out 6).trans (show _ = some (.int .i64 F) from rfl); have ctf6 := blk_frozen BTd.out 6; have ct7 := (blk_cell BTd.out 7).trans (show _ = some (.int .i64 0) from rfl); have ctf7 := blk_frozen BTd.out 7
        by_cases h9 : k < 9
        · have t9 : decide (((k + 1 : Nat) : Int) < 10) = true := decide_eq_true (by omega)
          have cr0 := (blk_cell BRd.out 0).trans (show _ = some (.int .i64 0) from rfl); have crf0 := blk_frozen BRd.out 0; have cr1 := (blk_cell BRd.out 1).trans (show _ = some (.int .i64 0) from rfl); have crf1 := blk_frozen BRd.out 1; have cr2 := (blk_cell BRd.out 2).trans (show _ = some (.int .i64 0) from rfl); have crf2 := blk_frozen BRd.out 2; have cr3 := (blk_cell BRd.out 3).trans (show _ = some (.int .i64 0) from rfl); have crf3 := blk_frozen BRd.out 3; have cr4 := (blk_cell BRd.out 4).trans (show _ = some (.int .i64 0) from rfl); have crf4 := blk_frozen BRd.out 4; have cr5 := (blk_cell BRd.out 5).trans (show _ = some (.int .i64 0) from rfl); have crf5 := blk_frozen BRd.out 5; have cr6 := (blk_cell BRd.out 6).trans (show _ = some (.int .i64 0) from rfl); have crf6 := blk_frozen BRd.out 6; have cr7 := (blk_cell BRd.out 7).trans (show _ = some (.int .i64 0) from rfl); have crf7 := blk_frozen BRd.out 7
          rcases Nat.lt_or_ge (k + 1) c with hkc | hkc
          · have tc : decide (((k + 1 : Nat) : Int) < (c : Int)) = true := decide_eq_true (by omega)
            have hxk : ∀ h : k + 1 < R5.size, ((R5[k + 1]'h).toNat : Int) = bt R5 ((k + 1 : Nat) : Int) := bt_at R5 ((k + 1 : Nat) : Int)
            have bD := C3'.out (k + 1) (by omega) hkc
            obtain ⟨D, hD⟩ : ∃ D, D = bt R5 ((k + 1 : Nat) : Int) := ⟨_, rfl⟩
            rw [← hD] at bD hxk
            have ED := Aside0.mk hD
            clear hD
            have tlq : (((k + 1 : Nat) : Int) < (R5.size : Int)) = True := eq_true (by omega)
            have tlqn : (k + 1 < R5.size) = True := eq_true (by omega)
            go_upto_region 22 with (first
              | ((with_reducible refine gate_store (t := 3) (p := 98) rfl ?_); refine store_event (t := 3) (p := 98) (v := ?vo98) (w1 := (wd).setCell ⟨g8, 6, none⟩ (.int .i64 (F * 10))) ?hg ?ho ?hn ?hr ?_; (case ho => rfl); (case hg => rfl); (case hn => rfl); (case hr => first | (go_simp; done) | (go_simp; rfl)); intro we hw; have BTe := Aside0.mk (show we.heap[g8]? = some (.cells #[.int .i64 Y, .int .i64 mo, .int .i64 d, .int .i64 h, .int .i64 mi, .int .i64 n, .int .i64 (F * 10), .int .i64 0] 87 (0, 0)) from by rw [hw]; exact blk_put (cs := #[.int .i64 Y, .int .i64 mo, .int .i64 d, .int .i64 h, .int .i64 mi, .int .i64 n, .int .i64 F, .int .i64 0]) BTd.out 6 _ rfl); have BRe := Aside0.mk (show we.heap[g2]? = some (.cells #[.int .i64 0, .int .i64 0, .int .i64 0, .int .i64 0, .int .i64 0, .int .i64 0, .int .i64 0, .int .i64 0] 87 (0, 0)) from by rw [hw]; exact blk_far BRd.out NE.out _); have HBe := Aside0.mk (show Below w.heap.size w we from by rw [hw]; exact below_set HBd.out GT.out); clear ct0 ctf0 ct1 ctf1 ct2 ctf2 ct3 ctf3 ct4 ctf4 ct5 ctf5 ct6 ctf6 ct7 ctf7; have ct0 := (blk_cell BTe.out 0).trans (show _ = some (.int .i64 Y) from rfl); have ctf0 := blk_frozen BTe.out 0; have ct1 := (blk_cell BTe.out 1).trans (show _ = some (.int .i64 mo) from rfl); have ctf1 := blk_frozen BTe.out 1; have ct2 := (blk_cell BTe.out 2).trans (show _ = some (.int .i64 d) from rfl); have ctf2 := blk_frozen BTe.out 2; have ct3 := (blk_cell BTe.out 3).trans (show _ = some (.int .i64 h) from rfl); have ctf3 := blk_frozen BTe.out 3; have ct4 := (blk_cell BTe.out 4).trans (show _ = some (.int .i64 mi) from rfl); have ctf4 := blk_frozen BTe.out 4; have ct5 := (blk_cell BTe.out 5).trans (show _ = some (.int .i64 n) from rfl); have ctf5 := blk_frozen BTe.out 5; have ct6 := (blk_cell BTe.out 6).trans (show _ = some (.int .i64 (F * 10)) from rfl); have ctf6 := blk_frozen BTe.out 6; have ct7 := (blk_cell BTe.out 7).trans (show _ = some (.int .i64 0) from rfl); have ctf7 := blk_frozen BTe.out 7; clear cr0 crf0 cr1 crf1 cr2 crf2 cr3 crf3 cr4 crf4 cr5 crf5 cr6 crf6 cr7 crf7; have cr0 := (blk_cell BRe.out 0).trans (show _ = some (.int .i64 0) from rfl); have crf0 := blk_frozen BRe.out 0; have cr1 := (blk_cell BRe.out 1).trans (show _ = some (.int .i64 0) from rfl); have crf1 := blk_frozen BRe.out 1; have cr2 := (blk_cell BRe.out 2).trans (show _ = some (.int .i64 0) from rfl); have crf2 := blk_frozen BRe.out 2; have cr3 := (blk_cell BRe.out 3).trans (show _ = some (.int .i64 0) from rfl); have crf3 := blk_frozen BRe.out 3; have cr4 := (blk_cell BRe.out 4).trans (show _ = some (.int .i64 0) from rfl); have crf4 := blk_frozen BRe.out 4; have cr5 := (blk_cell BRe.out 5).trans (show _ = some (.int .i64 0) from rfl); have crf5 := blk_frozen BRe.out 5; have cr6 := (blk_cell BRe.out 6).trans (show _ = some (.int .i64 0) from rfl); have crf6 := blk_frozen BRe.out 6; have cr7 := (blk_cell BRe.out 7).trans (show _ = some (.int .i64 0) from rfl); have crf7 := blk_frozen BRe.out 7; clear hw))
            (try simp only [Act.put, List.setIfInBounds_toArray, List.set_cons_zero, List.set_cons_succ])
            go_region
            all_goals
              go_wp2
              go_roundw
              case rel => exact ⟨k + 1, by go_num, ⟨by omega⟩, ⟨by rw [frV_dig hkc, ← EF.out, ← ED.out]; exact blk_put (cs := #[.int .i64 Y, .int .i64 mo, .int .i64 d, .int .i64 h, .int .i64 mi, .int .i64 n, .int .i64 (F * 10), .int .i64 0]) BTe.out 6 _ rfl, blk_far BRe.out NE.out _, below_drew1 (below_set HBe.out GT.out)⟩⟩
              case measure => simp [intOf]; omega
          · have tc : decide (((k + 1 : Nat) : Int) < (c : Int)) = false := decide_eq_false (by omega)
            go_wp2_with (first
              | ((with_reducible refine gate_store (t := 3) (p := 98) rfl ?_); refine store_event (t := 3) (p := 98) (v := ?vo98) (w1 := (wd).setCell ⟨g8, 6, none⟩ (.int .i64 (F * 10))) ?hg ?ho ?hn ?hr ?_; (case ho => rfl); (case hg => rfl); (case hn => rfl); (case hr => first | (go_simp; done) | (go_simp; rfl)); intro we hw; have BTe := Aside0.mk (show we.heap[g8]? = some (.cells #[.int .i64 Y, .int .i64 mo, .int .i64 d, .int .i64 h, .int .i64 mi, .int .i64 n, .int .i64 (F * 10), .int .i64 0] 87 (0, 0)) from by rw [hw]; exact blk_put (cs := #[.int .i64 Y, .int .i64 mo, .int .i64 d, .int .i64 h, .int .i64 mi, .int .i64 n, .int .i64 F, .int .i64 0]) BTd.out 6 _ rfl); have BRe := Aside0.mk (show we.heap[g2]? = some (.cells #[.int .i64 0, .int .i64 0, .int .i64 0, .int .i64 0, .int .i64 0, .int .i64 0, .int .i64 0, .int .i64 0] 87 (0, 0)) from by rw [hw]; exact blk_far BRd.out NE.out _); have HBe := Aside0.mk (show Below w.heap.size w we from by rw [hw]; exact below_set HBd.out GT.out); clear ct0 ctf0 ct1 ctf1 ct2 ctf2 ct3 ctf3 ct4 ctf4 ct5 ctf5 ct6 ctf6 ct7 ctf7; have ct0 := (blk_cell BTe.out 0).trans (show _ = some (.int .i64 Y) from rfl); have ctf0 := blk_frozen BTe.out 0; have ct1 := (blk_cell BTe.out 1).trans (show _ = some (.int .i64 mo) from rfl); have ctf1 := blk_frozen BTe.out 1; have ct2 := (blk_cell BTe.out 2).trans (show _ = some (.int .i64 d) from rfl); have ctf2 := blk_frozen BTe.out 2; have ct3 := (blk_cell BTe.out 3).trans (show _ = some (.int .i64 h) from rfl); have ctf3 := blk_frozen BTe.out 3; have ct4 := (blk_cell BTe.out 4).trans (show _ = some (.int .i64 mi) from rfl); have ctf4 := blk_frozen BTe.out 4; have ct5 := (blk_cell BTe.out 5).trans (show _ = some (.int .i64 n) from rfl); have ctf5 := blk_frozen BTe.out 5; have ct6 := (blk_cell BTe.out 6).trans (show _ = some (.int .i64 (F * 10)) from rfl); have ctf6 := blk_frozen BTe.out 6; have ct7 := (blk_cell BTe.out 7).trans (show _ = some (.int .i64 0) from rfl); have ctf7 := blk_frozen BTe.out 7; clear cr0 crf0 cr1 crf1 cr2 crf2 cr3 crf3 cr4 crf4 cr5 crf5 cr6 crf6 cr7 crf7; have cr0 := (blk_cell BRe.out 0).trans (show _ = some (.int .i64 0) from rfl); have crf0 := blk_frozen BRe.out 0; have cr1 := (blk_cell BRe.out 1).trans (show _ = some (.int .i64 0) from rfl); have crf1 := blk_frozen BRe.out 1; have cr2 := (blk_cell BRe.out 2).trans (show _ = some (.int .i64 0) from rfl); have crf2 := blk_frozen BRe.out 2; have cr3 := (blk_cell BRe.out 3).trans (show _ = some (.int .i64 0) from rfl); have crf3 := blk_frozen BRe.out 3; have cr4 := (blk_cell BRe.out 4).trans (show _ = some (.int .i64 0) from rfl); have crf4 := blk_frozen BRe.out 4; have cr5 := (blk_cell BRe.out 5).trans (show _ = some (.int .i64 0) from rfl); have crf5 := blk_frozen BRe.out 5; have cr6 := (blk_cell BRe.out 6).trans (show _ = some (.int .i64 0) from rfl); have crf6 := blk_frozen BRe.out 6; have cr7 := (blk_cell BRe.out 7).trans (show _ = some (.int .i64 0) from rfl); have crf7 := blk_frozen BRe.out 7; clear hw))
            go_roundw
            case rel => exact ⟨k + 1, by go_num, ⟨by omega⟩, ⟨by rw [frV_pad hkc, ← EF.out]; exact BTe.out, BRe.out, HBe.out⟩⟩
            case measure => simp [intOf]; omega
        · have t9 : decide (((k + 1 : Nat) : Int) < 10) = false := decide_eq_false (by omega)
          go_wp2
          go_meet
          case rel => exact ⟨by rw [show (9 : Nat) = k by omega, ← EF.out]; exact ⟨BTd.out, BRd.out, HBd.out⟩⟩
    case rest =>
      generalize wc = wd at hcut ⊢
      have bF := frV_range C3'.out 9 (Nat.le_refl 9)
      obtain ⟨F, hF⟩ : ∃ F, F = frV R5 c 9 := ⟨_, rfl⟩
      rw [← hF] at hcut bF
      have EF := Aside0.mk hF
      clear hF
      have BTd := Aside0.mk hcut.out.1
      have BRd := Aside0.mk hcut.out.2.1
      have HBd := Aside0.mk hcut.out.2.2
      clear hcut
      have ct0 := (blk_cell BTd.out 0).trans (show _ = some (.int .i64 Y) from rfl); have ctf0 := blk_frozen BTd.out 0; have ct1 := (blk_cell BTd.out 1).trans (show _ = some (.int .i64 mo) from rfl); have ctf1 := blk_frozen BTd.out 1; have ct2 := (blk_cell BTd.out 2).trans (show _ = some (.int .i64 d) from rfl); have ctf2 := blk_frozen BTd.out 2; have ct3 := (blk_cell BTd.out 3).trans (show _ = some (.int .i64 h) from rfl); have ctf3 := blk_frozen BTd.out 3; have ct4 := (blk_cell BTd.out 4).trans (show _ = some (.int .i64 mi) from rfl); have ctf4 := blk_frozen BTd.out 4; have ct5 := (blk_cell BTd.out 5).trans (show _ = some (.int .i64 n) from rfl); have ctf5 := blk_frozen BTd.out 5; have ct6 := (blk_cell BTd.out 6).trans (show _ = some (.int .i64 F) from rfl); have ctf6 := blk_frozen BTd.out 6; have ct7 := (blk_cell BTd.out 7).trans (show _ = some (.int .i64 0) from rfl); have ctf7 := blk_frozen BTd.out 7; have cr0 := (blk_cell BRd.out 0).trans (show _ = some (.int .i64 0) from rfl); have crf0 := blk_frozen BRd.out 0; have cr1 := (blk_cell BRd.out 1).trans (show _ = some (.int .i64 0) from rfl); have crf1 := blk_frozen BRd.out 1; have cr2 := (blk_cell BRd.out 2).trans (show _ = some (.int .i64 0) from rfl); have crf2 := blk_frozen BRd.out 2; have cr3 := (blk_cell BRd.out 3).trans (show _ = some (.int .i64 0) from rfl); have crf3 := blk_frozen BRd.out 3; have cr4 := (blk_cell BRd.out 4).trans (show _ = some (.int .i64 0) from rfl); have crf4 := blk_frozen BRd.out 4; have cr5 := (blk_cell BRd.out 5).trans (show _ = some (.int .i64 0) from rfl); have crf5 := blk_frozen BRd.out 5; have cr6 := (blk_cell BRd.out 6).trans (show _ = some (.int .i64 0) from rfl); have crf6 := blk_frozen BRd.out 6; have cr7 := (blk_cell BRd.out 7).trans (show _ = some (.int .i64 0) from rfl); have crf7 := blk_frozen BRd.out 7
      have hsl : R6 = R5.extract c R5.size := E9'.out
      have HSL := Aside0.mk hsl
      clear hsl
      go_wp2_with (first
        | (go_at_call 100; (try rw [← HSL.out]); (with_reducible refine (zone2_any R6 _).mono ?_); rw [X6'.out]; rintro e wq ⟨rfl, ⟨n6, rfl⟩⟩)
        | ((with_reducible refine gate_store (t := 3) (p := 119) rfl ?_); refine store_event (t := 3) (p := 119) (v := ?vo119) (w1 := (wd.setCell ⟨g8, 7, none⟩ (.int .i64 (zV R6))).drewN n6) ?hg ?ho ?hn ?hr ?_; (case ho => rfl); (case hg => rfl); (case hn => rfl); (case hr => first | (go_simp; done) | (go_simp; rfl)); intro wZ hw; have BTZ := Aside0.mk (show wZ.heap[g8]? = some (.cells #[.int .i64 Y, .int .i64 mo, .int .i64 d, .int .i64 h, .int .i64 mi, .int .i64 n, .int .i64 F, .int .i64 (zV R6)] 87 (0, 0)) from by rw [hw]; exact blk_drewN (blk_put (cs := #[.int .i64 Y, .int .i64 mo, .int .i64 d, .int .i64 h, .int .i64 mi, .int .i64 n, .int .i64 F, .int .i64 0]) BTd.out 7 _ rfl) _); have BRZ := Aside0.mk (show wZ.heap[g2]? = some (.cells #[.int .i64 0, .int .i64 0, .int .i64 0, .int .i64 0, .int .i64 0, .int .i64 0, .int .i64 0, .int .i64 0] 87 (0, 0)) from by rw [hw]; exact blk_drewN (blk_far BRd.out NE.out _) _); have HBZ := Aside0.mk (show Below w.heap.size w wZ from by rw [hw]; exact pw_below_drewN (below_set HBd.out GT.out) _); clear ct0 ctf0 ct1 ctf1 ct2 ctf2 ct3 ctf3 ct4 ctf4 ct5 ctf5 ct6 ctf6 ct7 ctf7; have ct0 := (blk_cell BTZ.out 0).trans (show _ = some (.int .i64 Y) from rfl); have ctf0 := blk_frozen BTZ.out 0; have ct1 := (blk_cell BTZ.out 1).trans (show _ = some (.int .i64 mo) from rfl); have ctf1 := blk_frozen BTZ.out 1; have ct2 := (blk_cell BTZ.out 2).trans (show _ = some (.int .i64 d) from rfl); have ctf2 := blk_frozen BTZ.out 2; have ct3 := (blk_cell BTZ.out 3).trans (show _ = some (.int .i64 h) from rfl); have ctf3 := blk_frozen BTZ.out 3; have ct4 := (blk_cell BTZ.out 4).trans (show _ = some (.int .i64 mi) from rfl); have ctf4 := blk_frozen BTZ.out 4; have ct5 := (blk_cell BTZ.out 5).trans (show _ = some (.int .i64 n) from rfl); have ctf5 := blk_frozen BTZ.out 5; have ct6 := (blk_cell BTZ.out 6).trans (show _ = some (.int .i64 F) from rfl); have ctf6 := blk_frozen BTZ.out 6; have ct7 := (blk_cell BTZ.out 7).trans (show _ = some (.int .i64 (zV R6)) from rfl); have ctf7 := blk_frozen BTZ.out 7; clear cr0 crf0 cr1 crf1 cr2 crf2 cr3 crf3 cr4 crf4 cr5 crf5 cr6 crf6 cr7 crf7; have cr0 := (blk_cell BRZ.out 0).trans (show _ = some (.int .i64 0) from rfl); have crf0 := blk_frozen BRZ.out 0; have cr1 := (blk_cell BRZ.out 1).trans (show _ = some (.int .i64 0) from rfl); have crf1 := blk_frozen BRZ.out 1; have cr2 := (blk_cell BRZ.out 2).trans (show _ = some (.int .i64 0) from rfl); have crf2 := blk_frozen BRZ.out 2; have cr3 := (blk_cell BRZ.out 3).trans (show _ = some (.int .i64 0) from rfl); have crf3 := blk_frozen BRZ.out 3; have cr4 := (blk_cell BRZ.out 4).trans (show _ = some (.int .i64 0) from rfl); have crf4 := blk_frozen BRZ.out 4; have cr5 := (blk_cell BRZ.out 5).trans (show _ = some (.int .i64 0) from rfl); have crf5 := blk_frozen BRZ.out 5; have cr6 := (blk_cell BRZ.out 6).trans (show _ = some (.int .i64 0) from rfl); have crf6 := blk_frozen BRZ.out 6; have cr7 := (blk_cell BRZ.out 7).trans (show _ = some (.int .i64 0) from rfl); have crf7 := blk_frozen BRZ.out 7; clear hw)
        | ((with_reducible refine gate_store (t := 87) (p := 2) rfl ?_); refine store_event (t := 87) (p := 2) (v := ?vo2) (w1 := (put8 wZ g2 (.int .i64 0) (.int .i64 0) (.int .i64 0) (.int .i64 0) (.int .i64 0) (.int .i64 0) (.int .i64 0) (.int .i64 0))) ?hg ?ho ?hn ?hr ?_; (case ho => rfl); (case hg => rfl); (case hn => rfl); (case hr => first | (go_simp; done) | (go_simp; rfl)); intro w9 hw; have BX := Aside0.mk (show w9.heap[g2]? = some (.cells #[.int .i64 0, .int .i64 0, .int .i64 0, .int .i64 0, .int .i64 0, .int .i64 0, .int .i64 0, .int .i64 0] 87 (0, 0)) from by rw [hw]; exact put8_blk BRZ.out (.int .i64 0) (.int .i64 0) (.int .i64 0) (.int .i64 0) (.int .i64 0) (.int .i64 0) (.int .i64 0) (.int .i64 0)); have HX := Aside0.mk (show Below w.heap.size w w9 from by rw [hw]; exact HBZ.out.grown (put8_grown wZ g2 (.int .i64 0) (.int .i64 0) (.int .i64 0) (.int .i64 0) (.int .i64 0) (.int .i64 0) (.int .i64 0) (.int .i64 0)) (below_size HBZ.out) (fun q hq => by cases hq; exact GR.out)); clear hw))
      refine bodyPost_ret (results_ct rfl _ _ g2 87 #[.int .i64 0, .int .i64 0, .int .i64 0, .int .i64 0, .int .i64 0, .int .i64 0, .int .i64 0, .int .i64 0] (0, 0) _ rfl BX.out Try.underlying87 rfl (by kernel_rfl)) rfl ?_
      exact ⟨T, x, rfl, HX.out⟩
set_option maxHeartbeats 8000000 in
set_option maxRecDepth 100000 in
theorem Gen_g1 (A0 : Option Addr) (c0 : Nat) (l : List Int) (S : ByteArray) (Y mo d h mi n a : Int) (c : Nat) (R4 R5 R6 : ByteArray) (w : World) (hr0 : Kd.C (Kd.int .u8) w A0 l.length l) (hS : S = strOfNums l) (x1 : dg4 S = true) (ev : Y = dv4 S) (z0 : dg2 (dr4 S) = true) (z1 : dg2 (dr2 (dr4 S)) = true) (z2 : dg2 (dr2 (dr2 (dr4 S))) = true) (z3 : dg2 (dr2 (dr2 (dr2 (dr4 S)))) = true) (e1 : mo = dv2 (dr4 S)) (e2 : d = dv2 (dr2 (dr4 S))) (e3 : h = dv2 (dr2 (dr2 (dr4 S)))) (e4 : mi = dv2 (dr2 (dr2 (dr2 (dr4 S))))) (e5 : R4 = dr2 (dr2 (dr2 (dr2 (dr4 S))))) (x3 : dateB Y mo d h mi = true) (x4 : dg2 R4 = true) (e6 : n = dv2 R4) (e7 : R5 = dr2 R4) (x5 : n < 60) (x8 : 0 < R5.size) (x9 : bt R5 0 = 46) (c1 : 1 ≤ c) (c2 : c ≤ R5.size) (c3 : ∀ j : Nat, 1 ≤ j → j < c → 48 ≤ bt R5 (j : Int) ∧ bt R5 (j : Int) ≤ 57) (c4 : c = R5.size ∨ bt R5 (c : Int) < 48 ∨ 57 < bt R5 (c : Int)) (ce : R5.size ≤ 4611686018427387904) (c5 : 1 < c) (c6 : c ≤ 10) (c7 : bt R5 ((c : Int) - 1) ≠ 48) (e9 : R6 = R5.extract c R5.size) (x6 : zO R6 = true) (e8 : a = zV R6) :
    Calls Try.prog 85 #[.slice A0 l.length c0] w (PGood w Y mo d h mi n (frV R5 c 9) a) := by
  have bY := dv4_range x1
  rw [← ev] at bY
  have bn := dv2_range x4
  rw [← e6] at bn
  have X1' := Aside0.mk x1
  have EV' := Aside0.mk ev
  have Z0' := Aside0.mk z0
  have Z1' := Aside0.mk z1
  have Z2' := Aside0.mk z2
  have Z3' := Aside0.mk z3
  have E1' := Aside0.mk e1
  have E2' := Aside0.mk e2
  have E3' := Aside0.mk e3
  have E4' := Aside0.mk e4
  have E5' := Aside0.mk e5
  have X3' := Aside0.mk x3
  have X4' := Aside0.mk x4
  have E6' := Aside0.mk e6
  have E7' := Aside0.mk e7
  have X5' := Aside0.mk x5
  have X8' := Aside0.mk x8
  have X9' := Aside0.mk x9
  have C1' := Aside0.mk c1
  have C2' := Aside0.mk c2
  have C3' := Aside0.mk c3
  have C4' := Aside0.mk c4
  have CE' := Aside0.mk ce
  have C5' := Aside0.mk c5
  have C6' := Aside0.mk c6
  have C7' := Aside0.mk c7
  have E9' := Aside0.mk e9
  have X6' := Aside0.mk x6
  have E8' := Aside0.mk e8
  have t60 : decide (60 ≤ n) = false := decide_eq_false (by omega)
  have tz : decide (0 < (R5.size : Int)) = true := decide_eq_true (by omega)
  have tzn : decide (0 < R5.size) = true := decide_eq_true (by omega)
  have tq : ((0 : Int) < (R5.size : Int)) = True := eq_true (by omega)
  have tqn : (0 < R5.size) = True := eq_true (by omega)
  have hx0 : ∀ h : 0 < R5.size, ((R5[0]'h).toNat : Int) = bt R5 0 := bt_at R5 0
  have t46 : (bt R5 0 == 46) = true := beq_iff_eq.mpr x9
  have HR0 := Aside0.mk hr0
  have HS := Aside0.mk hS
  have HB0 := Aside0.mk (Below.refl w.heap.size w)
  clear hr0 hS x1 ev z0 z1 z2 z3 e1 e2 e3 e4 e5 x3 x4 e6 e7 x5 x8 x9 c1 c2 c3 c4 ce c5 c6 c7 e9 x6 e8
  go_enter Try.func85, Try.ntmps85
  go_upto_block 0 with (first
    | ((with_reducible refine gate_dst (N := 2) rfl ?_); refine box_event ?hg (N := 2) ?hd (cs := #[.int .i64 0, .int .i64 0, .int .i64 0, .int .i64 0, .int .i64 0, .int .i64 0, .int .i64 0, .int .i64 0]) (t := 87) ?hr ?_; (case hd => rfl); (case hg => rfl); (case hr => first | (go_simp; done) | (go_simp; rfl)); intro g2 hg w1 hbox hb; have BR1 := Aside0.mk hbox; have HB1 := Aside0.mk (below_step HB0.out hb); have GR := Aside0.mk (show w.heap.size ≤ g2 by rw [hg]; exact Nat.le_refl _); clear hbox hb hg)
    | (go_at_call 97; (with_reducible refine (errors_New_any _ _).mono ?_); rintro e w2 ⟨T, x, rfl, hb⟩; have BR2 := Aside0.mk (blk_below BR1.out hb); have HB2 := Aside0.mk (below_step HB1.out hb); have hcv := Kd.C_string (P := Try.prog) (A := A0) (c := c0) Try.underlying25 Try.underlying5 Try.underlying9 (Kd.C_below HR0.out HB2.out); rw [← HS.out] at hcv; clear hb)
    | (go_at_call 98; (with_reducible refine (dig4_yes S _ X1'.out).mono ?_); rw [← EV'.out]; rintro e w3 ⟨rfl, ⟨n1, rfl⟩⟩; clear hcv)
    | (go_at_call 99; (with_reducible refine (zzDate_yes Y mo d h mi (dr4 S) _ Z0'.out Z1'.out Z2'.out Z3'.out E1'.out E2'.out E3'.out E4'.out).mono ?_); rw [X3'.out, ← E5'.out]; rintro e w3 ⟨rfl, hb⟩; have BR3 := Aside0.mk (blk_below (blk_drewN BR2.out n1) hb); have HB3 := Aside0.mk (below_step (pw_below_drewN HB2.out n1) hb); clear hb)
    | ((with_reducible refine gate_dst (N := 8) rfl ?_); refine box_event ?hg (N := 8) ?hd (cs := #[.int .i64 0, .int .i64 0, .int .i64 0, .int .i64 0, .int .i64 0, .int .i64 0, .int .i64 0, .int .i64 0]) (t := 87) ?hr ?_; (case hd => rfl); (case hg => rfl); (case hr => first | (go_simp; done) | (go_simp; rfl)); intro g8 hg w4 hbox hb; have BR4 := Aside0.mk (blk_below BR3.out hb); have HB4 := Aside0.mk (below_step HB3.out hb); have BT4 := Aside0.mk hbox; have GT := Aside0.mk (show w.heap.size ≤ g8 by rw [hg]; exact below_size HB3.out); have NE := Aside0.mk (show g2 ≠ g8 by rw [hg]; exact Nat.ne_of_lt (blk_lt BR3.out)); have ct0 := (blk_cell BT4.out 0).trans (show _ = some (.int .i64 0) from rfl); have ctf0 := blk_frozen BT4.out 0; have ct1 := (blk_cell BT4.out 1).trans (show _ = some (.int .i64 0) from rfl); have ctf1 := blk_frozen BT4.out 1; have ct2 := (blk_cell BT4.out 2).trans (show _ = some (.int .i64 0) from rfl); have ctf2 := blk_frozen BT4.out 2; have ct3 := (blk_cell BT4.out 3).trans (show _ = some (.int .i64 0) from rfl); have ctf3 := blk_frozen BT4.out 3; have ct4 := (blk_cell BT4.out 4).trans (show _ = some (.int .i64 0) from rfl); have ctf4 := blk_frozen BT4.out 4; have ct5 := (blk_cell BT4.out 5).trans (show _ = some (.int .i64 0) from rfl); have ctf5 := blk_frozen BT4.out 5; have ct6 := (blk_cell BT4.out 6).trans (show _ = some (.int .i64 0) from rfl); have ctf6 := blk_frozen BT4.out 6; have ct7 := (blk_cell BT4.out 7).trans (show _ = some (.int .i64 0) from rfl); have ctf7 := blk_frozen BT4.out 7; clear hbox hb hg)
    | ((with_reducible refine gate_store (t := 87) (p := 8) rfl ?_); refine store_event (t := 87) (p := 8) (v := ?vo8) (w1 := put8 (w4) g8 (.int .i64 Y) (.int .i64 mo) (.int .i64 d) (.int .i64 h) (.int .i64 mi) (.int .i64 0) (.int .i64 0) (.int .i64 0)) ?hg ?ho ?hn ?hr ?_; (case ho => rfl); (case hg => rfl); (case hn => rfl); (case hr => first | (go_simp; done) | (go_simp; rfl)); intro w5 hw; have BT5 := Aside0.mk (show w5.heap[g8]? = some (.cells #[.int .i64 Y, .int .i64 mo, .int .i64 d, .int .i64 h, .int .i64 mi, .int .i64 0, .int .i64 0, .int .i64 0] 87 (0, 0)) from by rw [hw]; exact put8_blk BT4.out (.int .i64 Y) (.int .i64 mo) (.int .i64 d) (.int .i64 h) (.int .i64 mi) (.int .i64 0) (.int .i64 0) (.int .i64 0)); have BR5 := Aside0.mk (show w5.heap[g2]? = some (.cells #[.int .i64 0, .int .i64 0, .int .i64 0, .int .i64 0, .int .i64 0, .int .i64 0, .int .i64 0, .int .i64 0] 87 (0, 0)) from by rw [hw]; exact blk_grown BR4.out (put8_grown w4 g8 (.int .i64 Y) (.int .i64 mo) (.int .i64 d) (.int .i64 h) (.int .i64 mi) (.int .i64 0) (.int .i64 0) (.int .i64 0)) (fun e => NE.out (by injection e))); have HB5 := Aside0.mk (show Below w.heap.size w w5 from by rw [hw]; exact HB4.out.grown (put8_grown w4 g8 (.int .i64 Y) (.int .i64 mo) (.int .i64 d) (.int .i64 h) (.int .i64 mi) (.int .i64 0) (.int .i64 0) (.int .i64 0)) (below_size HB4.out) (fun q hq => by cases hq; exact GT.out)); clear ct0 ctf0 ct1 ctf1 ct2 ctf2 ct3 ctf3 ct4 ctf4 ct5 ctf5 ct6 ctf6 ct7 ctf7; have ct0 := (blk_cell BT5.out 0).trans (show _ = some (.int .i64 Y) from rfl); have ctf0 := blk_frozen BT5.out 0; have ct1 := (blk_cell BT5.out 1).trans (show _ = some (.int .i64 mo) from rfl); have ctf1 := blk_frozen BT5.out 1; have ct2 := (blk_cell BT5.out 2).trans (show _ = some (.int .i64 d) from rfl); have ctf2 := blk_frozen BT5.out 2; have ct3 := (blk_cell BT5.out 3).trans (show _ = some (.int .i64 h) from rfl); have ctf3 := blk_frozen BT5.out 3; have ct4 := (blk_cell BT5.out 4).trans (show _ = some (.int .i64 mi) from rfl); have ctf4 := blk_frozen BT5.out 4; have ct5 := (blk_cell BT5.out 5).trans (show _ = some (.int .i64 0) from rfl); have ctf5 := blk_frozen BT5.out 5; have ct6 := (blk_cell BT5.out 6).trans (show _ = some (.int .i64 0) from rfl); have ctf6 := blk_frozen BT5.out 6; have ct7 := (blk_cell BT5.out 7).trans (show _ = some (.int .i64 0) from rfl); have ctf7 := blk_frozen BT5.out 7; have cr0 := (blk_cell BR5.out 0).trans (show _ = some (.int .i64 0) from rfl); have crf0 := blk_frozen BR5.out 0; have cr1 := (blk_cell BR5.out 1).trans (show _ = some (.int .i64 0) from rfl); have crf1 := blk_frozen BR5.out 1; have cr2 := (blk_cell BR5.out 2).trans (show _ = some (.int .i64 0) from rfl); have crf2 := blk_frozen BR5.out 2; have cr3 := (blk_cell BR5.out 3).trans (show _ = some (.int .i64 0) from rfl); have crf3 := blk_frozen BR5.out 3; have cr4 := (blk_cell BR5.out 4).trans (show _ = some (.int .i64 0) from rfl); have crf4 := blk_frozen BR5.out 4; have cr5 := (blk_cell BR5.out 5).trans (show _ = some (.int .i64 0) from rfl); have crf5 := blk_frozen BR5.out 5; have cr6 := (blk_cell BR5.out 6).trans (show _ = some (.int .i64 0) from rfl); have crf6 := blk_frozen BR5.out 6; have cr7 := (blk_cell BR5.out 7).trans (show _ = some (.int .i64 0) from rfl); have crf7 := blk_frozen BR5.out 7; clear hw)
    | (go_at_call 98; (with_reducible refine (dig2_yes R4 _ X4'.out).mono ?_); rw [← E6'.out, ← E7'.out]; rintro e wq ⟨rfl, ⟨n5, rfl⟩⟩)
    | ((with_reducible refine gate_store (t := 3) (p := 40) rfl ?_); refine store_event (t := 3) (p := 40) (v := ?vo40) (w1 := (w5.setCell ⟨g8, 5, none⟩ (.int .i64 n)).drewN n5) ?hg ?ho ?hn ?hr ?_; (case ho => rfl); (case hg => rfl); (case hn => rfl); (case hr => first | (go_simp; done) | (go_simp; rfl)); intro w6 hw; have BT6 := Aside0.mk (show w6.heap[g8]? = some (.cells #[.int .i64 Y, .int .i64 mo, .int .i64 d, .int .i64 h, .int .i64 mi, .int .i64 n, .int .i64 0, .int .i64 0] 87 (0, 0)) from by rw [hw]; exact blk_drewN (blk_put (cs := #[.int .i64 Y, .int .i64 mo, .int .i64 d, .int .i64 h, .int .i64 mi, .int .i64 0, .int .i64 0, .int .i64 0]) BT5.out 5 _ rfl) _); have BR6 := Aside0.mk (show w6.heap[g2]? = some (.cells #[.int .i64 0, .int .i64 0, .int .i64 0, .int .i64 0, .int .i64 0, .int .i64 0, .int .i64 0, .int .i64 0] 87 (0, 0)) from by rw [hw]; exact blk_drewN (blk_far BR5.out NE.out _) _); have HB6 := Aside0.mk (show Below w.heap.size w w6 from by rw [hw]; exact pw_below_drewN (below_set HB5.out GT.out) _); clear ct0 ctf0 ct1 ctf1 ct2 ctf2 ct3 ctf3 ct4 ctf4 ct5 ctf5 ct6 ctf6 ct7 ctf7; have ct0 := (blk_cell BT6.out 0).trans (show _ = some (.int .i64 Y) from rfl); have ctf0 := blk_frozen BT6.out 0; have ct1 := (blk_cell BT6.out 1).trans (show _ = some (.int .i64 mo) from rfl); have ctf1 := blk_frozen BT6.out 1; have ct2 := (blk_cell BT6.out 2).trans (show _ = some (.int .i64 d) from rfl); have ctf2 := blk_frozen BT6.out 2; have ct3 := (blk_cell BT6.out 3).trans (show _ = some (.int .i64 h) from rfl); have ctf3 := blk_frozen BT6.out 3; have ct4 := (blk_cell BT6.out 4).trans (show _ = some (.int .i64 mi) from rfl); have ctf4 := blk_frozen BT6.out 4; have ct5 := (blk_cell BT6.out 5).trans (show _ = some (.int .i64 n) from rfl); have ctf5 := blk_frozen BT6.out 5; have ct6 := (blk_cell BT6.out 6).trans (show _ = some (.int .i64 0) from rfl); have ctf6 := blk_frozen BT6.out 6; have ct7 := (blk_cell BT6.out 7).trans (show _ = some (.int .i64 0) from rfl); have ctf7 := blk_frozen BT6.out 7; clear cr0 crf0 cr1 crf1 cr2 crf2 cr3 crf3 cr4 crf4 cr5 crf5 cr6 crf6 cr7 crf7; have cr0 := (blk_cell BR6.out 0).trans (show _ = some (.int .i64 0) from rfl); have crf0 := blk_frozen BR6.out 0; have cr1 := (blk_cell BR6.out 1).trans (show _ = some (.int .i64 0) from rfl); have crf1 := blk_frozen BR6.out 1; have cr2 := (blk_cell BR6.out 2).trans (show _ = some (.int .i64 0) from rfl); have crf2 := blk_frozen BR6.out 2; have cr3 := (blk_cell BR6.out 3).trans (show _ = some (.int .i64 0) from rfl); have crf3 := blk_frozen BR6.out 3; have cr4 := (blk_cell BR6.out 4).trans (show _ = some (.int .i64 0) from rfl); have crf4 := blk_frozen BR6.out 4; have cr5 := (blk_cell BR6.out 5).trans (show _ = some (.int .i64 0) from rfl); have crf5 := blk_frozen BR6.out 5; have cr6 := (blk_cell BR6.out 6).trans (show _ = some (.int .i64 0) from rfl); have crf6 := blk_frozen BR6.out 6; have cr7 := (blk_cell BR6.out 7).trans (show _ = some (.int .i64 0) from rfl); have crf7 := blk_frozen BR6.out 7; clear hw))
  (try simp only [Act.put, List.setIfInBounds_toArray, List.set_cons_zero, List.set_cons_succ])
  clear t60 tz tzn hx0 t46 tq tqn
  go_cut [9] (fun v9 wc => v9 = .int .i64 (c : Int) ∧ w6 = wc)
  case first =>
    have hcs : c ≤ R5.size := C2'.out
    have hce : R5.size ≤ 4611686018427387904 := CE'.out
    go_wp2
    go_loopw [9] (fun v9 wr => ∃ k : Nat, v9 = .int .i64 (k : Int) ∧ Aside0 (1 ≤ k ∧ k ≤ c) ∧ w6 = wr) (fun v9 _ => c - (intOf v9).toNat)
    case atStart => exact ⟨1, rfl, ⟨Nat.le_refl _, C1'.out⟩, rfl⟩
    case round =>
      obtain ⟨k, rfl, HK, rfl⟩ := hrel
      have hk1 : 1 ≤ k := HK.out.1
      have hkc : k ≤ c := HK.out.2
      have hxk : ∀ h : k < R5.size, ((R5[k]'h).toNat : Int) = bt R5 (k : Int) := bt_at R5 k
      have out_ : ∀ b : Nat, b = c → True := fun _ _ => trivial
      clear out_
      rcases Nat.lt_or_ge k c with hlt | hge
      · have tl : decide ((k : Int) < (R5.size : Int)) = true := decide_eq_true (by omega)
        have tlq : ((k : Int) < (R5.size : Int)) = True := eq_true (by omega)
        have tlqn : (k < R5.size) = True := eq_true (by omega)
        have tln : decide (k < R5.size) = true := decide_eq_true (by omega)
        have t48 : decide (48 ≤ bt R5 (k : Int)) = true := decide_eq_true (C3'.out k hk1 hlt).1
        have t57 : decide (bt R5 (k : Int) ≤ 57) = true := decide_eq_true (C3'.out k hk1 hlt).2
        go_wp2
        go_roundw
        case rel => exact ⟨k + 1, by go_num, ⟨by omega, by omega⟩, by first | trivial | rfl⟩
        case measure => simp [intOf]; omega
      · have hkeq : k = c := Nat.le_antisymm hkc hge
        have HKE := Aside0.mk hkeq
        clear hkeq
        rcases C4'.out with h | h | h
        · have tl : decide ((k : Int) < (R5.size : Int)) = false := decide_eq_false (by have := HKE.out; omega)
          have tln : decide (k < R5.size) = false := decide_eq_false (by have := HKE.out; omega)
          clear h
          go_wp2
          go_meet
          case rel => exact ⟨by rw [HKE.out], rfl⟩
        · rcases Nat.lt_or_ge k R5.size with hls | hls
          case inr =>
            have tl : decide ((k : Int) < (R5.size : Int)) = false := decide_eq_false (by omega)
            have tln : decide (k < R5.size) = false := decide_eq_false (by omega)
            clear h
            go_wp2
            go_meet
            case rel => exact ⟨by rw [HKE.out], rfl⟩
          rw [← HKE.out] at h
          have tl : decide ((k : Int) < (R5.size : Int)) = true := decide_eq_true (by omega)
          have tlq : ((k : Int) < (R5.size : Int)) = True := eq_true (by omega)
          have tlqn : (k < R5.size) = True := eq_true (by omega)
          have tln : decide (k < R5.size) = true := decide_eq_true (by omega)
          have t48 : decide (48 ≤ bt R5 (k : Int)) = false := decide_eq_false (by omega)
          clear h
          go_wp2
          go_meet
          case rel => exact ⟨by rw [HKE.out], rfl⟩
        · rcases Nat.lt_or_ge k R5.size with hls | hls
          case inr =>
            have tl : decide ((k : Int) < (R5.size : Int)) = false := decide_eq_false (by omega)
            have tln : decide (k < R5.size) = false := decide_eq_false (by omega)
            clear h
            go_wp2
            go_meet
            case rel => exact ⟨by rw [HKE.out], rfl⟩
          rw [← HKE.out] at h
          have tl : decide ((k : Int) < (R5.size : Int)) = true := decide_eq_true (by omega)
          have tlq : ((k : Int) < (R5.size : Int)) = True := eq_true (by omega)
          have tlqn : (k < R5.size) = True := eq_true (by omega)
          have tln : decide (k < R5.size) = true := decide_eq_true (by omega)
          have t48 : decide (48 ≤ bt R5 (k : Int)) = true := decide_eq_true (by omega)
          have t57 : decide (bt R5 (k : Int) ≤ 57) = false := decide_eq_false (by omega)
          clear h
          go_wp2
          go_meet
          case rel => exact ⟨by rw [HKE.out], rfl⟩
  case rest =>
    obtain ⟨rfl, rfl⟩ := hcut
    have hc1 : 1 ≤ c := C1'.out
    have hcs : c ≤ R5.size := C2'.out
    have hce : R5.size ≤ 4611686018427387904 := CE'.out
    have hc5 : 1 < c := by have := C5'.out; omega
    have t1 : ((c : Int) == 1) = false := beq_eq_false_iff_ne.mpr (by omega)
    have hc6 : c ≤ 10 := C6'.out
    have t10 : decide (10 < (c : Int)) = false := decide_eq_false (by omega)
    have hxl : ∀ h : c - 1 < R5.size, ((R5[c - 1]'h).toNat : Int) = bt R5 ((c : Int) - 1) := by
      have h9 := bt_at R5 ((c : Int) - 1)
      rw [show ((c : Int) - 1).toNat = c - 1 by omega] at h9
      exact h9
    have tp : ((0 : Int) ≤ (c : Int) - 1) = True := eq_true (by omega)
    have tp2 : ((c : Int) - 1 < (R5.size : Int)) = True := eq_true (by omega)
    have tp3 : (c - 1 < R5.size) = True := eq_true (by omega)
    have t48 : (bt R5 ((c : Int) - 1) == 48) = false := beq_eq_false_iff_ne.mpr C7'.out
    go_upto_block 2 with (fail)
    (try simp only [Act.put, List.setIfInBounds_toArray, List.set_cons_zero, List.set_cons_succ])
    clear t1 t10 hxl tp tp2 tp3 t48 ct0 ctf0 cr0 crf0 ct1 ctf1 cr1 crf1 ct2 ctf2 cr2 crf2 ct3 ctf3 cr3 crf3 ct4 ctf4 cr4 crf4 ct5 ctf5 cr5 crf5 ct6 ctf6 cr6 crf6 ct7 ctf7 cr7 crf7
    go_cut [] (fun wc => Aside0 (wc.heap[g8]? = some (.cells #[.int .i64 Y, .int .i64 mo, .int .i64 d, .int .i64 h, .int .i64 mi, .int .i64 n, .int .i64 (frV R5 c 9), .int .i64 0] 87 (0, 0)) ∧ wc.heap[g2]? = some (.cells #[.int .i64 0, .int .i64 0, .int .i64 0, .int .i64 0, .int .i64 0, .int .i64 0, .int .i64 0, .int .i64 0] 87 (0, 0)) ∧ Below w.heap.size w wc))
    case first =>
      go_wp2
      go_loopw [10] (fun v10 wr => ∃ k : Nat, v10 = .int .i64 ((k + 1 : Nat) : Int) ∧ Aside0 (k ≤ 9) ∧ Aside0 (wr.heap[g8]? = some (.cells #[.int .i64 Y, .int .i64 mo, .int .i64 d, .int .i64 h, .int .i64 mi, .int .i64 n, .int .i64 (frV R5 c k), .int .i64 0] 87 (0, 0)) ∧ wr.heap[g2]? = some (.cells #[.int .i64 0, .int .i64 0, .int .i64 0, .int .i64 0, .int .i64 0, .int .i64 0, .int .i64 0, .int .i64 0] 87 (0, 0)) ∧ Below w.heap.size w wr)) (fun v10 _ => 10 - (intOf v10).toNat)
      case atStart => exact ⟨0, rfl, ⟨by omega⟩, ⟨BT6.out, BR6.out, HB6.out⟩⟩
      case round =>
        obtain ⟨k, rfl, HK, HW⟩ := hrel
        generalize wr = wd at HW ⊢
        have hk9 : k ≤ 9 := HK.out
        have bF : 0 ≤ frV R5 c k ∧ frV R5 c k ≤ 1000000000 := frV_range C3'.out k hk9
        obtain ⟨F, hF⟩ : ∃ F, F = frV R5 c k := ⟨_, rfl⟩
        rw [← hF] at bF HW
        have EF := Aside0.mk hF
        clear hF
        have BTd := Aside0.mk HW.out.1
        have BRd := Aside0.mk HW.out.2.1
        have HBd := Aside0.mk HW.out.2.2
        clear HW
        have ct0 := (blk_cell BTd.out 0).trans (show _ = some (.int .i64 Y) from rfl); have ctf0 := blk_frozen BTd.out 0; have ct1 := (blk_cell BTd.out 1).trans (show _ = some (.int .i64 mo) from rfl); have ctf1 := blk_frozen BTd.out 1; have ct2 := (blk_cell BTd.out 2).trans (show _ = some (.int .i64 d) from rfl); have ctf2 := blk_frozen BTd.out 2; have ct3 := (blk_cell BTd.out 3).trans (show _ = some (.int .i64 h) from rfl); have ctf3 := blk_frozen BTd.out 3; have ct4 := (blk_cell BTd.out 4).trans (show _ = some (.int .i64 mi) from rfl); have ctf4 := blk_frozen BTd.out 4; have ct5 := (blk_cell BTd.out 5).trans (show _ = some (.int .i64 n) from rfl); have ctf5 := blk_frozen BTd.out 5; have ct6 := (blk_cell BTd.out 6).trans (show _ = some (.int .i64 F) from rfl); have ctf6 := blk_frozen BTd.out 6; have ct7 := (blk_cell BTd.out 7).trans (show _ = some (.int .i64 0) from rfl); have ctf7 := blk_frozen BTd.out 7
        by_cases h9 : k < 9
        · have t9 : decide (((k + 1 : Nat) : Int) < 10) = true := decide_eq_true (by omega)
          have cr0 := (blk_cell BRd.out 0).trans (show _ = some (.int .i64 0) from rfl); have crf0 := blk_frozen BRd.out 0; have cr1 := (blk_cell BRd.out 1).trans (show _ = some (.int .i64 0) from rfl); have crf1 := blk_frozen BRd.out 1; have cr2 := (blk_cell BRd.out 2).trans (show _ = some (.int .i64 0) from rfl); have crf2 := blk_frozen BRd.out 2; have cr3 := (blk_cell BRd.out 3).trans (show _ = some (.int .i64 0) from rfl); have crf3 := blk_frozen BRd.out 3; have cr4 := (blk_cell BRd.out 4).trans (show _ = some (.int .i64 0) from rfl); have crf4 := blk_frozen BRd.out 4; have cr5 := (blk_cell BRd.out 5).trans (show _ = some (.int .i64 0) from rfl); have crf5 := blk_frozen BRd.out 5; have cr6 := (blk_cell BRd.out 6).trans (show _ = some (.int .i64 0) from rfl); have crf6 := blk_frozen BRd.out 6; have cr7 := (blk_cell BRd.out 7).trans (show _ = some (.int .i64 0) from rfl); have crf7 := blk_frozen BRd.out 7
          rcases Nat.lt_or_ge (k + 1) c with hkc | hkc
          · have tc : decide (((k + 1 : Nat) : Int) < (c : Int)) = true := decide_eq_true (by omega)
            have hxk : ∀ h : k + 1 < R5.size, ((R5[k + 1]'h).toNat : Int) = bt R5 ((k + 1 : Nat) : Int) := bt_at R5 ((k + 1 : Nat) : Int)
            have bD := C3'.out (k + 1) (by omega) hkc
            obtain ⟨D, hD⟩ : ∃ D, D = bt R5 ((k + 1 : Nat) : Int) := ⟨_, rfl⟩
            rw [← hD] at bD hxk
            have ED := Aside0.mk hD
            clear hD
            have tlq : (((k + 1 : Nat) : Int) < (R5.size : Int)) = True := eq_true (by omega)
            have tlqn : (k + 1 < R5.size) = True := eq_true (by omega)
            go_upto_region 22 with (first
              | ((with_reducible refine gate_store (t := 3) (p := 98) rfl ?_); refine store_event (t := 3) (p := 98) (v := ?vo98) (w1 := (wd).setCell ⟨g8, 6, none⟩ (.int .i64 (F * 10))) ?hg ?ho ?hn ?hr ?_; (case ho => rfl); (case hg => rfl); (case hn => rfl); (case hr => first | (go_simp; done) | (go_simp; rfl)); intro we hw; have BTe := Aside0.mk (show we.heap[g8]? = some (.cells #[.int .i64 Y, .int .i64 mo, .int .i64 d, .int .i64 h, .int .i64 mi, .int .i64 n, .int .i64 (F * 10), .int .i64 0] 87 (0, 0)) from by rw [hw]; exact blk_put (cs := #[.int .i64 Y, .int .i64 mo, .int .i64 d, .int .i64 h, .int .i64 mi, .int .i64 n, .int .i64 F, .int .i64 0]) BTd.out 6 _ rfl); have BRe := Aside0.mk (show we.heap[g2]? = some (.cells #[.int .i64 0, .int .i64 0, .int .i64 0, .int .i64 0, .int .i64 0, .int .i64 0, .int .i64 0, .int .i64 0] 87 (0, 0)) from by rw [hw]; exact blk_far BRd.out NE.out _); have HBe := Aside0.mk (show Below w.heap.size w we from by rw [hw]; exact below_set HBd.out GT.out); clear ct0 ctf0 ct1 ctf1 ct2 ctf2 ct3 ctf3 ct4 ctf4 ct5 ctf5 ct6 ctf6 ct7 ctf7; have ct0 := (blk_cell BTe.out 0).trans (show _ = some (.int .i64 Y) from rfl); have ctf0 := blk_frozen BTe.out 0; have ct1 := (blk_cell BTe.out 1).trans (show _ = some (.int .i64 mo) from rfl); have ctf1 := blk_frozen BTe.out 1; have ct2 := (blk_cell BTe.out 2).trans (show _ = some (.int .i64 d) from rfl); have ctf2 := blk_frozen BTe.out 2; have ct3 := (blk_cell BTe.out 3).trans (show _ = some (.int .i64 h) from rfl); have ctf3 := blk_frozen BTe.out 3; have ct4 := (blk_cell BTe.out 4).trans (show _ = some (.int .i64 mi) from rfl); have ctf4 := blk_frozen BTe.out 4; have ct5 := (blk_cell BTe.out 5).trans (show _ = some (.int .i64 n) from rfl); have ctf5 := blk_frozen BTe.out 5; have ct6 := (blk_cell BTe.out 6).trans (show _ = some (.int .i64 (F * 10)) from rfl); have ctf6 := blk_frozen BTe.out 6; have ct7 := (blk_cell BTe.out 7).trans (show _ = some (.int .i64 0) from rfl); have ctf7 := blk_frozen BTe.out 7; clear cr0 crf0 cr1 crf1 cr2 crf2 cr3 crf3 cr4 crf4 cr5 crf5 cr6 crf6 cr7 crf7; have cr0 := (blk_cell BRe.out 0).trans (show _ = some (.int .i64 0) from rfl); have crf0 := blk_frozen BRe.out 0; have cr1 := (blk_cell BRe.out 1).trans (show _ = some (.int .i64 0) from rfl); have crf1 := blk_frozen BRe.out 1; have cr2 := (blk_cell BRe.out 2).trans (show _ = some (.int .i64 0) from rfl); have crf2 := blk_frozen BRe.out 2; have cr3 := (blk_cell BRe.out 3).trans (show _ = some (.int .i64 0) from rfl); have crf3 := blk_frozen BRe.out 3; have cr4 := (blk_cell BRe.out 4).trans (show _ = some (.int .i64 0) from rfl); have crf4 := blk_frozen BRe.out 4; have cr5 := (blk_cell BRe.out 5).trans (show _ = some (.int .i64 0) from rfl); have crf5 := blk_frozen BRe.out 5; have cr6 := (blk_cell BRe.out 6).trans (show _ = some (.int .i64 0) from rfl); have crf6 := blk_frozen BRe.out 6; have cr7 := (blk_cell BRe.out 7).trans (show _ = some (.int .i64 0) from rfl); have crf7 := blk_frozen BRe.out 7; clear hw))
            (try simp only [Act.put, List.setIfInBounds_toArray, List.set_cons_zero, List.set_cons_succ])
            go_region
            all_goals
              go_wp2
              go_roundw
              case rel => exact ⟨k + 1, by go_num, ⟨by omega⟩, ⟨by rw [frV_dig hkc, ← EF.out, ← ED.out]; exact blk_put (cs := #[.int .i64 Y, .int .i64 mo, .int .i64 d, .int .i64 h, .int .i64 mi, .int .i64 n, .int .i64 (F * 10), .int .i64 0]) BTe.out 6 _ rfl, blk_far BRe.out NE.out _, below_drew1 (below_set HBe.out GT.out)⟩⟩
              case measure => simp [intOf]; omega
          · have tc : decide (((k + 1 : Nat) : Int) < (c : Int)) = false := decide_eq_false (by omega)
            go_wp2_with (first
              | ((with_reducible refine gate_store (t := 3) (p := 98) rfl ?_); refine store_event (t := 3) (p := 98) (v := ?vo98) (w1 := (wd).setCell ⟨g8, 6, none⟩ (.int .i64 (F * 10))) ?hg ?ho ?hn ?hr ?_; (case ho => rfl); (case hg => rfl); (case hn => rfl); (case hr => first | (go_simp; done) | (go_simp; rfl)); intro we hw; have BTe := Aside0.mk (show we.heap[g8]? = some (.cells #[.int .i64 Y, .int .i64 mo, .int .i64 d, .int .i64 h, .int .i64 mi, .int .i64 n, .int .i64 (F * 10), .int .i64 0] 87 (0, 0)) from by rw [hw]; exact blk_put (cs := #[.int .i64 Y, .int .i64 mo, .int .i64 d, .int .i64 h, .int .i64 mi, .int .i64 n, .int .i64 F, .int .i64 0]) BTd.out 6 _ rfl); have BRe := Aside0.mk (show we.heap[g2]? = some (.cells #[.int .i64 0, .int .i64 0, .int .i64 0, .int .i64 0, .int .i64 0, .int .i64 0, .int .i64 0, .int .i64 0] 87 (0, 0)) from by rw [hw]; exact blk_far BRd.out NE.out _); have HBe := Aside0.mk (show Below w.heap.size w we from by rw [hw]; exact below_set HBd.out GT.out); clear ct0 ctf0 ct1 ctf1 ct2 ctf2 ct3 ctf3 ct4 ctf4 ct5 ctf5 ct6 ctf6 ct7 ctf7; have ct0 := (blk_cell BTe.out 0).trans (show _ = some (.int .i64 Y) from rfl); have ctf0 := blk_frozen BTe.out 0; have ct1 := (blk_cell BTe.out 1).trans (show _ = some (.int .i64 mo) from rfl); have ctf1 := blk_frozen BTe.out 1; have ct2 := (blk_cell BTe.out 2).trans (show _ = some (.int .i64 d) from rfl); have ctf2 := blk_frozen BTe.out 2; have ct3 := (blk_cell BTe.out 3).trans (show _ = some (.int .i64 h) from rfl); have ctf3 := blk_frozen BTe.out 3; have ct4 := (blk_cell BTe.out 4).trans (show _ = some (.int .i64 mi) from rfl); have ctf4 := blk_frozen BTe.out 4; have ct5 := (blk_cell BTe.out 5).trans (show _ = some (.int .i64 n) from rfl); have ctf5 := blk_frozen BTe.out 5; have ct6 := (blk_cell BTe.out 6).trans (show _ = some (.int .i64 (F * 10)) from rfl); have ctf6 := blk_frozen BTe.out 6; have ct7 := (blk_cell BTe.out 7).trans (show _ = some (.int .i64 0) from rfl); have ctf7 := blk_frozen BTe.out 7; clear cr0 crf0 cr1 crf1 cr2 crf2 cr3 crf3 cr4 crf4 cr5 crf5 cr6 crf6 cr7 crf7; have cr0 := (blk_cell BRe.out 0).trans (show _ = some (.int .i64 0) from rfl); have crf0 := blk_frozen BRe.out 0; have cr1 := (blk_cell BRe.out 1).trans (show _ = some (.int .i64 0) from rfl); have crf1 := blk_frozen BRe.out 1; have cr2 := (blk_cell BRe.out 2).trans (show _ = some (.int .i64 0) from rfl); have crf2 := blk_frozen BRe.out 2; have cr3 := (blk_cell BRe.out 3).trans (show _ = some (.int .i64 0) from rfl); have crf3 := blk_frozen BRe.out 3; have cr4 := (blk_cell BRe.out 4).trans (show _ = some (.int .i64 0) from rfl); have crf4 := blk_frozen BRe.out 4; have cr5 := (blk_cell BRe.out 5).trans (show _ = some (.int .i64 0) from rfl); have crf5 := blk_frozen BRe.out 5; have cr6 := (blk_cell BRe.out 6).trans (show _ = some (.int .i64 0) from rfl); have crf6 := blk_frozen BRe.out 6; have cr7 := (blk_cell BRe.out 7).trans (show _ = some (.int .i64 0) from rfl); have crf7 := blk_frozen BRe.out 7; clear hw))
            go_roundw
            case rel => exact ⟨k + 1, by go_num, ⟨by omega⟩, ⟨by rw [frV_pad hkc, ← EF.out]; exact BTe.out, BRe.out, HBe.out⟩⟩
            case measure => simp [intOf]; omega
        · have t9 : decide (((k + 1 : Nat) : Int) < 10) = false := decide_eq_false (by omega)
          go_wp2
          go_meet
          case rel => exact ⟨by rw [show (9 : Nat) = k by omega, ← EF.out]; exact ⟨BTd.out, BRd.out, HBd.out⟩⟩
    case rest =>
      generalize wc = wd at hcut ⊢
      have bF := frV_range C3'.out 9 (Nat.le_refl 9)
      obtain ⟨F, hF⟩ : ∃ F, F = frV R5 c 9 := ⟨_, rfl⟩
      rw [← hF] at hcut bF
      have EF := Aside0.mk hF
      clear hF
      have BTd := Aside0.mk hcut.out.1
      have BRd := Aside0.mk hcut.out.2.1
      have HBd := Aside0.mk hcut.out.2.2
      clear hcut
      have ct0 := (blk_cell BTd.out 0).trans (show _ = some (.int .i64 Y) from rfl); have ctf0 := blk_frozen BTd.out 0; have ct1 := (blk_cell BTd.out 1).trans (show _ = some (.int .i64 mo) from rfl); have ctf1 := blk_frozen BTd.out 1; have ct2 := (blk_cell BTd.out 2).trans (show _ = some (.int .i64 d) from rfl); have ctf2 := blk_frozen BTd.out 2; have ct3 := (blk_cell BTd.out 3).trans (show _ = some (.int .i64 h) from rfl); have ctf3 := blk_frozen BTd.out 3; have ct4 := (blk_cell BTd.out 4).trans (show _ = some (.int .i64 mi) from rfl); have ctf4 := blk_frozen BTd.out 4; have ct5 := (blk_cell BTd.out 5).trans (show _ = some (.int .i64 n) from rfl); have ctf5 := blk_frozen BTd.out 5; have ct6 := (blk_cell BTd.out 6).trans (show _ = some (.int .i64 F) from rfl); have ctf6 := blk_frozen BTd.out 6; have ct7 := (blk_cell BTd.out 7).trans (show _ = some (.int .i64 0) from rfl); have ctf7 := blk_frozen BTd.out 7; have cr0 := (blk_cell BRd.out 0).trans (show _ = some (.int .i64 0) from rfl); have crf0 := blk_frozen BRd.out 0; have cr1 := (blk_cell BRd.out 1).trans (show _ = some (.int .i64 0) from rfl); have crf1 := blk_frozen BRd.out 1; have cr2 := (blk_cell BRd.out 2).trans (show _ = some (.int .i64 0) from rfl); have crf2 := blk_frozen BRd.out 2; have cr3 := (blk_cell BRd.out 3).trans (show _ = some (.int .i64 0) from rfl); have crf3 := blk_frozen BRd.out 3; have cr4 := (blk_cell BRd.out 4).trans (show _ = some (.int .i64 0) from rfl); have crf4 := blk_frozen BRd.out 4; have cr5 := (blk_cell BRd.out 5).trans (show _ = some (.int .i64 0) from rfl); have crf5 := blk_frozen BRd.out 5; have cr6 := (blk_cell BRd.out 6).trans (show _ = some (.int .i64 0) from rfl); have crf6 := blk_frozen BRd.out 6; have cr7 := (blk_cell BRd.out 7).trans (show _ = some (.int .i64 0) from rfl); have crf7 := blk_frozen BRd.out 7
      have hsl : R6 = R5.extract c R5.size := E9'.out
      have HSL := Aside0.mk hsl
      clear hsl
      go_wp2_with (first
        | (go_at_call 100; (try rw [← HSL.out]); (with_reducible refine (zone2_any R6 _).mono ?_); rw [X6'.out, ← E8'.out]; rintro e wq ⟨rfl, ⟨n6, rfl⟩⟩)
        | ((with_reducible refine gate_store (t := 3) (p := 119) rfl ?_); refine store_event (t := 3) (p := 119) (v := ?vo119) (w1 := (wd.setCell ⟨g8, 7, none⟩ (.int .i64 a)).drewN n6) ?hg ?ho ?hn ?hr ?_; (case ho => rfl); (case hg => rfl); (case hn => rfl); (case hr => first | (go_simp; done) | (go_simp; rfl)); intro wZ hw; have BTZ := Aside0.mk (show wZ.heap[g8]? = some (.cells #[.int .i64 Y, .int .i64 mo, .int .i64 d, .int .i64 h, .int .i64 mi, .int .i64 n, .int .i64 F, .int .i64 a] 87 (0, 0)) from by rw [hw]; exact blk_drewN (blk_put (cs := #[.int .i64 Y, .int .i64 mo, .int .i64 d, .int .i64 h, .int .i64 mi, .int .i64 n, .int .i64 F, .int .i64 0]) BTd.out 7 _ rfl) _); have BRZ := Aside0.mk (show wZ.heap[g2]? = some (.cells #[.int .i64 0, .int .i64 0, .int .i64 0, .int .i64 0, .int .i64 0, .int .i64 0, .int .i64 0, .int .i64 0] 87 (0, 0)) from by rw [hw]; exact blk_drewN (blk_far BRd.out NE.out _) _); have HBZ := Aside0.mk (show Below w.heap.size w wZ from by rw [hw]; exact pw_below_drewN (below_set HBd.out GT.out) _); clear ct0 ctf0 ct1 ctf1 ct2 ctf2 ct3 ctf3 ct4 ctf4 ct5 ctf5 ct6 ctf6 ct7 ctf7; have ct0 := (blk_cell BTZ.out 0).trans (show _ = some (.int .i64 Y) from rfl); have ctf0 := blk_frozen BTZ.out 0; have ct1 := (blk_cell BTZ.out 1).trans (show _ = some (.int .i64 mo) from rfl); have ctf1 := blk_frozen BTZ.out 1; have ct2 := (blk_cell BTZ.out 2).trans (show _ = some (.int .i64 d) from rfl); have ctf2 := blk_frozen BTZ.out 2; have ct3 := (blk_cell BTZ.out 3).trans (show _ = some (.int .i64 h) from rfl); have ctf3 := blk_frozen BTZ.out 3; have ct4 := (blk_cell BTZ.out 4).trans (show _ = some (.int .i64 mi) from rfl); have ctf4 := blk_frozen BTZ.out 4; have ct5 := (blk_cell BTZ.out 5).trans (show _ = some (.int .i64 n) from rfl); have ctf5 := blk_frozen BTZ.out 5; have ct6 := (blk_cell BTZ.out 6).trans (show _ = some (.int .i64 F) from rfl); have ctf6 := blk_frozen BTZ.out 6; have ct7 := (blk_cell BTZ.out 7).trans (show _ = some (.int .i64 a) from rfl); have ctf7 := blk_frozen BTZ.out 7; clear cr0 crf0 cr1 crf1 cr2 crf2 cr3 crf3 cr4 crf4 cr5 crf5 cr6 crf6 cr7 crf7; have cr0 := (blk_cell BRZ.out 0).trans (show _ = some (.int .i64 0) from rfl); have crf0 := blk_frozen BRZ.out 0; have cr1 := (blk_cell BRZ.out 1).trans (show _ = some (.int .i64 0) from rfl); have crf1 := blk_frozen BRZ.out 1; have cr2 := (blk_cell BRZ.out 2).trans (show _ = some (.int .i64 0) from rfl); have crf2 := blk_frozen BRZ.out 2; have cr3 := (blk_cell BRZ.out 3).trans (show _ = some (.int .i64 0) from rfl); have crf3 := blk_frozen BRZ.out 3; have cr4 := (blk_cell BRZ.out 4).trans (show _ = some (.int .i64 0) from rfl); have crf4 := blk_frozen BRZ.out 4; have cr5 := (blk_cell BRZ.out 5).trans (show _ = some (.int .i64 0) from rfl); have crf5 := blk_frozen BRZ.out 5; have cr6 := (blk_cell BRZ.out 6).trans (show _ = some (.int .i64 0) from rfl); have crf6 := blk_frozen BRZ.out 6; have cr7 := (blk_cell BRZ.out 7).trans (show _ = some (.int .i64 0) from rfl); have crf7 := blk_frozen BRZ.out 7; clear hw)
        | ((with_reducible refine gate_store (t := 87) (p := 2) rfl ?_); refine store_event (t := 87) (p := 2) (v := ?vo2) (w1 := (put8 wZ g2 (.int .i64 Y) (.int .i64 mo) (.int .i64 d) (.int .i64 h) (.int .i64 mi) (.int .i64 n) (.int .i64 F) (.int .i64 a))) ?hg ?ho ?hn ?hr ?_; (case ho => rfl); (case hg => rfl); (case hn => rfl); (case hr => first | (go_simp; done) | (go_simp; rfl)); intro w9 hw; have BX := Aside0.mk (show w9.heap[g2]? = some (.cells #[.int .i64 Y, .int .i64 mo, .int .i64 d, .int .i64 h, .int .i64 mi, .int .i64 n, .int .i64 F, .int .i64 a] 87 (0, 0)) from by rw [hw]; exact put8_blk BRZ.out (.int .i64 Y) (.int .i64 mo) (.int .i64 d) (.int .i64 h) (.int .i64 mi) (.int .i64 n) (.int .i64 F) (.int .i64 a)); have HX := Aside0.mk (show Below w.heap.size w w9 from by rw [hw]; exact HBZ.out.grown (put8_grown wZ g2 (.int .i64 Y) (.int .i64 mo) (.int .i64 d) (.int .i64 h) (.int .i64 mi) (.int .i64 n) (.int .i64 F) (.int .i64 a)) (below_size HBZ.out) (fun q hq => by cases hq; exact GR.out)); clear hw))
      rw [← EF.out]
      refine bodyPost_ret (results_ct rfl _ _ g2 87 #[.int .i64 Y, .int .i64 mo, .int .i64 d, .int .i64 h, .int .i64 mi, .int .i64 n, .int .i64 F, .int .i64 a] (0, 0) _ rfl BX.out Try.underlying87 rfl (by kernel_rfl)) rfl ?_
      exact ⟨rfl, HX.out⟩
/-- Where the figures end that stand from place k on (at most f are looked at). -/
def cntD (s : ByteArray) : Nat → Nat → Nat
  | 0, k => k
  | f + 1, k => if k < s.size ∧ (48 ≤ bt s (k : Int) ∧ bt s (k : Int) ≤ 57) then cntD s f (k + 1) else k
theorem cntD_spec (s : ByteArray) : ∀ f k, k ≤ s.size → s.size ≤ k + f → k ≤ cntD s f k ∧ cntD s f k ≤ s.size ∧ (∀ j : Nat, k ≤ j → j < cntD s f k → 48 ≤ bt s (j : Int) ∧ bt s (j : Int) ≤ 57) ∧ (cntD s f k = s.size ∨ bt s (cntD s f k : Int) < 48 ∨ 57 < bt s (cntD s f k : Int))
  | 0, k, h1, h2 => ⟨Nat.le_refl _, h1, fun j h3 h4 => absurd h4 (Nat.not_lt.mpr h3), .inl (by simp only [cntD]; omega)⟩
  | f + 1, k, h1, h2 => by
    simp only [cntD]
    by_cases c : k < s.size ∧ (48 ≤ bt s (k : Int) ∧ bt s (k : Int) ≤ 57)
    · rw [if_pos c]
      obtain ⟨a1, a2, a3, a4⟩ := cntD_spec s f (k + 1) (by omega) (by omega)
      refine ⟨by omega, a2, fun j h3 h4 => ?_, a4⟩
      rcases Nat.lt_or_ge k j with h | h
      · exact a3 j h h4
      · rw [show j = k by omega]
        exact c.2
    · rw [if_neg c]
      refine ⟨Nat.le_refl _, h1, fun j h3 h4 => absurd h4 (Nat.not_lt.mpr h3), ?_⟩
      rcases Nat.lt_or_ge k s.size with h | h
      · exact .inr (by omega)
      · exact .inl (by omega)
def gC (s : ByteArray) : Nat := cntD s s.size 1
def gR4 (S : ByteArray) : ByteArray := dr2 (dr2 (dr2 (dr2 (dr4 S))))
def gR5 (S : ByteArray) : ByteArray := dr2 (gR4 S)
def gD (S : ByteArray) : Bool := dg2 (dr4 S) && dg2 (dr2 (dr4 S)) && dg2 (dr2 (dr2 (dr4 S))) && dg2 (dr2 (dr2 (dr2 (dr4 S))))
def gB (S : ByteArray) : Bool := dateB (dv4 S) (dv2 (dr4 S)) (dv2 (dr2 (dr4 S))) (dv2 (dr2 (dr2 (dr4 S)))) (dv2 (dr2 (dr2 (dr2 (dr4 S)))))
def gP (s : ByteArray) : Bool := decide (0 < s.size) && (bt s 0 == 46)
def gF (s : ByteArray) : Bool := decide (1 < gC s) && decide (gC s ≤ 10) && !(bt s ((gC s : Int) - 1) == 48)
def gRst (S : ByteArray) : ByteArray := if gP (gR5 S) = true then (gR5 S).extract (gC (gR5 S)) (gR5 S).size else gR5 S
def gNa (S : ByteArray) : Int := if gP (gR5 S) = true then frV (gR5 S) (gC (gR5 S)) 9 else 0
def gOk (S : ByteArray) : Bool := dg4 S && gD S && gB S && dg2 (gR4 S) && decide (dv2 (gR4 S) < 60) && (!(gP (gR5 S)) || gF (gR5 S)) && zO (gRst S)
theorem gD_split {S : ByteArray} (h : gD S = true) : dg2 (dr4 S) = true ∧ dg2 (dr2 (dr4 S)) = true ∧ dg2 (dr2 (dr2 (dr4 S))) = true ∧ dg2 (dr2 (dr2 (dr2 (dr4 S)))) = true := by
  simp only [gD, Bool.and_eq_true] at h
  exact ⟨h.1.1.1, h.1.1.2, h.1.2, h.2⟩
theorem gR5_size {l : List Int} {S : ByteArray} (hS : strOfNums l = S) (hl : l.length ≤ 10000) : (gR5 S).size ≤ 4611686018427387904 := by
  have h : S.size ≤ 10000 := by rw [← hS, strOfNums_size]; exact hl
  have e2 : ∀ s : ByteArray, (dr2 s).size = s.size - 2 := fun s => by simp [dr2]
  have e4 : (dr4 S).size = S.size - 4 := by simp [dr4]
  unfold gR5 gR4
  rw [e2, e2, e2, e2, e2, e4]
  omega
theorem parseGen_good (A0 : Option Addr) (c0 : Nat) (l : List Int) (w : World) (hr0 : Kd.C (Kd.int .u8) w A0 l.length l) (hl : l.length ≤ 10000) (h : gOk (strOfNums l) = true) :
    Calls Try.prog 85 #[.slice A0 l.length c0] w (PGood w (dv4 (strOfNums l)) (dv2 (dr4 (strOfNums l))) (dv2 (dr2 (dr4 (strOfNums l)))) (dv2 (dr2 (dr2 (dr4 (strOfNums l))))) (dv2 (dr2 (dr2 (dr2 (dr4 (strOfNums l)))))) (dv2 (gR4 (strOfNums l))) (gNa (strOfNums l)) (zV (gRst (strOfNums l)))) := by
  generalize hS : strOfNums l = S at h ⊢
  have hz := gR5_size hS hl
  simp only [gOk, Bool.and_eq_true, decide_eq_true_eq] at h
  obtain ⟨⟨⟨⟨⟨⟨h1, hd⟩, h2⟩, h3⟩, h60⟩, hp⟩, h4⟩ := h
  obtain ⟨z0, z1, z2, z3⟩ := gD_split hd
  cases hs : gP (gR5 S) with
  | false =>
    have e1 : gNa S = 0 := if_neg (by rw [hs]; decide)
    have e2 : gRst S = gR5 S := if_neg (by rw [hs]; decide)
    rw [e2] at h4
    rw [e1, e2]
    rcases Nat.eq_zero_or_pos (gR5 S).size with q | q
    · exact Gen_g0a A0 c0 l S (dv4 S) _ _ _ _ _ _ 0 (gR4 S) (gR5 S) S w hr0 hS.symm h1 rfl z0 z1 z2 z3 rfl rfl rfl rfl rfl h2 h3 rfl rfl h60 q h4 rfl
    · have h46 : bt (gR5 S) 0 ≠ 46 := by
        intro e
        have hp2 : gP (gR5 S) = true := by simp only [gP, e, Bool.and_eq_true, decide_eq_true_eq]; exact ⟨q, rfl⟩
        rw [hp2] at hs
        cases hs
      exact Gen_g0b A0 c0 l S (dv4 S) _ _ _ _ _ _ 0 (gR4 S) (gR5 S) S w hr0 hS.symm h1 rfl z0 z1 z2 z3 rfl rfl rfl rfl rfl h2 h3 rfl rfl h60 q h46 h4 rfl
  | true =>
    have e1 : gNa S = frV (gR5 S) (gC (gR5 S)) 9 := if_pos hs
    have e2 : gRst S = (gR5 S).extract (gC (gR5 S)) (gR5 S).size := if_pos hs
    rw [e2] at h4
    rw [e1, e2]
    simp only [gP, Bool.and_eq_true, decide_eq_true_eq, beq_iff_eq] at hs
    have hf : gF (gR5 S) = true := by
      have hs' : gP (gR5 S) = true := by simp [gP, hs.1, hs.2]
      rw [hs'] at hp
      simpa using hp
    simp only [gF, Bool.and_eq_true, decide_eq_true_eq, Bool.not_eq_true', beq_eq_false_iff_ne] at hf
    obtain ⟨a1, a2, a3, a4⟩ := cntD_spec (gR5 S) (gR5 S).size 1 hs.1 (by omega)
    exact Gen_g1 A0 c0 l S (dv4 S) _ _ _ _ _ _ (gC (gR5 S)) (gR4 S) (gR5 S) _ w hr0 hS.symm h1 rfl z0 z1 z2 z3 rfl rfl rfl rfl rfl h2 h3 rfl rfl h60 hs.1 hs.2 a1 a2 a3 a4 hz hf.1.1 hf.1.2 hf.2 rfl h4 rfl
theorem parseGen_bad (A0 : Option Addr) (c0 : Nat) (l : List Int) (w : World) (hr0 : Kd.C (Kd.int .u8) w A0 l.length l) (hl : l.length ≤ 10000) (h : gOk (strOfNums l) = false) :
    Calls Try.prog 85 #[.slice A0 l.length c0] w (PBad w) := by
  generalize hS : strOfNums l = S at h
  have hz := gR5_size hS hl
  cases h1 : dg4 S with
  | false => exact Gen_d1 A0 c0 l S 0 0 0 0 0 0 0 0 S S S w hr0 hS.symm h1
  | true =>
    cases hd : gD S with
    | false => exact Gen_dd A0 c0 l S (dv4 S) 0 0 0 0 0 0 0 S S S w hr0 hS.symm h1 rfl hd
    | true =>
      obtain ⟨z0, z1, z2, z3⟩ := gD_split hd
      cases h2 : gB S with
      | false => exact Gen_db A0 c0 l S (dv4 S) _ _ _ _ 0 0 0 (gR4 S) S S w hr0 hS.symm h1 rfl z0 z1 z2 z3 rfl rfl rfl rfl rfl h2
      | true =>
        cases h3 : dg2 (gR4 S) with
        | false => exact Gen_s2 A0 c0 l S (dv4 S) _ _ _ _ 0 0 0 (gR4 S) S S w hr0 hS.symm h1 rfl z0 z1 z2 z3 rfl rfl rfl rfl rfl h2 h3
        | true =>
          by_cases h60 : dv2 (gR4 S) < 60
          · have h5 : (!(gP (gR5 S)) || gF (gR5 S)) = false ∨ zO (gRst S) = false := by
              simp only [gOk, h1, hd, h2, h3, decide_eq_true h60, Bool.true_and] at h
              cases q1 : (!(gP (gR5 S)) || gF (gR5 S)) with
              | false => exact .inl rfl
              | true => rw [q1, Bool.true_and] at h; exact .inr h
            cases hs : gP (gR5 S) with
            | false =>
              have e2 : gRst S = gR5 S := if_neg (by rw [hs]; decide)
              have h4 : zO (gR5 S) = false := by
                rw [← e2]
                rcases h5 with q | q
                · rw [hs] at q; simp at q
                · exact q
              rcases Nat.eq_zero_or_pos (gR5 S).size with q | q
              · exact Gen_z0a A0 c0 l S (dv4 S) _ _ _ _ _ 0 0 (gR4 S) (gR5 S) S w hr0 hS.symm h1 rfl z0 z1 z2 z3 rfl rfl rfl rfl rfl h2 h3 rfl rfl h60 q h4
              · have h46 : bt (gR5 S) 0 ≠ 46 := by
                  intro e
                  have hp2 : gP (gR5 S) = true := by simp only [gP, e, Bool.and_eq_true, decide_eq_true_eq]; exact ⟨q, rfl⟩
                  rw [hp2] at hs
                  cases hs
                exact Gen_z0b A0 c0 l S (dv4 S) _ _ _ _ _ 0 0 (gR4 S) (gR5 S) S w hr0 hS.symm h1 rfl z0 z1 z2 z3 rfl rfl rfl rfl rfl h2 h3 rfl rfl h60 q h46 h4
            | true =>
              have e2 : gRst S = (gR5 S).extract (gC (gR5 S)) (gR5 S).size := if_pos hs
              have hs' := hs
              simp only [gP, Bool.and_eq_true, decide_eq_true_eq, beq_iff_eq] at hs
              obtain ⟨a1, a2, a3, a4⟩ := cntD_spec (gR5 S) (gR5 S).size 1 hs.1 (by omega)
              rcases Nat.eq_or_lt_of_le a1 with c1 | c1
              · exact Gen_f1 A0 c0 l S (dv4 S) _ _ _ _ _ 0 (gC (gR5 S)) (gR4 S) (gR5 S) S w hr0 hS.symm h1 rfl z0 z1 z2 z3 rfl rfl rfl rfl rfl h2 h3 rfl rfl h60 hs.1 hs.2 a1 a2 a3 a4 hz c1.symm
              · by_cases c10 : 10 < gC (gR5 S)
                · exact Gen_f10 A0 c0 l S (dv4 S) _ _ _ _ _ 0 (gC (gR5 S)) (gR4 S) (gR5 S) S w hr0 hS.symm h1 rfl z0 z1 z2 z3 rfl rfl rfl rfl rfl h2 h3 rfl rfl h60 hs.1 hs.2 a1 a2 a3 a4 hz c10
                · by_cases c48 : bt (gR5 S) ((gC (gR5 S) : Int) - 1) = 48
                  · exact Gen_f48 A0 c0 l S (dv4 S) _ _ _ _ _ 0 (gC (gR5 S)) (gR4 S) (gR5 S) S w hr0 hS.symm h1 rfl z0 z1 z2 z3 rfl rfl rfl rfl rfl h2 h3 rfl rfl h60 hs.1 hs.2 a1 a2 a3 a4 hz c1 (by omega) c48
                  · have h4 : zO ((gR5 S).extract (gC (gR5 S)) (gR5 S).size) = false := by
                      rw [← e2]
                      rcases h5 with q | q
                      · exfalso
                        have hf : gF (gR5 S) = true := by
                          simp only [gF, Bool.and_eq_true, decide_eq_true_eq, Bool.not_eq_true', beq_eq_false_iff_ne]
                          exact ⟨⟨c1, by omega⟩, c48⟩
                        rw [hf] at q
                        simp at q
                      · exact q
                    exact Gen_z1 A0 c0 l S (dv4 S) _ _ _ _ _ 0 (gC (gR5 S)) (gR4 S) (gR5 S) _ w hr0 hS.symm h1 rfl z0 z1 z2 z3 rfl rfl rfl rfl rfl h2 h3 rfl rfl h60 hs.1 hs.2 a1 a2 a3 a4 hz c1 (by omega) c48 rfl h4
          · exact Gen_s60 A0 c0 l S (dv4 S) _ _ _ _ _ 0 0 (gR4 S) (gR5 S) S w hr0 hS.symm h1 rfl z0 z1 z2 z3 rfl rfl rfl rfl rfl h2 h3 rfl rfl (by omega)
end

end Go.Proofs.Ytmiemfgcggkbnaa.QP2
