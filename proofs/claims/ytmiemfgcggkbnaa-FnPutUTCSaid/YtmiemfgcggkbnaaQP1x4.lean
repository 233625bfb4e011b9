-- Written by a program of this work (wip/patch_print.py) for this claim.
import Derived.Test.YtmiemfgcggkbnaaQP1x0
import Derived.Test.YtmiemfgcggkbnaaQP1x2
import Derived.Test.YtmiemfgcggkbnaaQP1x3
namespace Go.Proofs.Ytmiemfgcggkbnaa.QP1
open Go.RowKit Go.Proofs.YtmiemfgcggkbnaaW.PrintWords Go.Proofs.YtmiemfgcggkbnaaW.PrintLast Go.Proofs.YtmiemfgcggkbnaaW.PrintMore
attribute [local go_sem] max2_int min2_int max_two min_two max_three min_three max_four min_four   -- for this text's walks alone
set_option linter.unusedVariables false
set_option linter.unusedSimpArgs false

section
open Go.BigFrame
set_option linter.unusedSimpArgs false
set_option maxHeartbeats 8000000 in
set_option maxRecDepth 100000 in
theorem UTC_d1 (A0 : Option Addr) (c0 : Nat) (l : List Int) (S : ByteArray) (v Y mo d h mi n a : Int) (R4 R5 : ByteArray) (w : World) (hr0 : Kd.C (Kd.int .u8) w A0 l.length l) (hS : S = strOfNums l) (x1 : dg2 S = false) :
    Calls Try.prog 84 #[.slice A0 l.length c0] w (PBad w) := by
  have X1' := Aside0.mk x1
  have HR0 := Aside0.mk hr0
  have HS := Aside0.mk hS
  have HB0 := Aside0.mk (Below.refl w.heap.size w)
  clear hr0 hS x1
  go_enter Try.func84, Try.ntmps84
  go_wp2_with (first
    | ((with_reducible refine gate_dst (N := 2) rfl ?_); refine box_event ?hg (N := 2) ?hd (cs := #[.int .i64 0, .int .i64 0, .int .i64 0, .int .i64 0, .int .i64 0, .int .i64 0, .int .i64 0, .int .i64 0]) (t := 87) ?hr ?_; (case hd => rfl); (case hg => rfl); (case hr => first | (go_simp; done) | (go_simp; rfl)); intro g2 hg w1 hbox hb; have BR1 := Aside0.mk hbox; have HB1 := Aside0.mk (below_step HB0.out hb); have GR := Aside0.mk (show w.heap.size ≤ g2 by rw [hg]; exact Nat.le_refl _); clear hbox hb hg)
    | (go_at_call 97; (with_reducible refine (errors_New_any _ _).mono ?_); rintro e w2 ⟨T, x, rfl, hb⟩; have BR2 := Aside0.mk (blk_below BR1.out hb); have HB2 := Aside0.mk (below_step HB1.out hb); have hcv := Kd.C_string (P := Try.prog) (A := A0) (c := c0) Try.underlying25 Try.underlying5 Try.underlying9 (Kd.C_below HR0.out HB2.out); rw [← HS.out] at hcv; clear hb)
    | (go_at_call 98; (with_reducible refine (dig2_no S _ X1'.out).mono ?_); rintro e w3 ⟨rfl, ⟨n1, rfl⟩⟩; clear hcv; have cr0 := (blk_cell BR2.out 0).trans (show _ = some (.int .i64 0) from rfl); have crf0 := blk_frozen BR2.out 0; have cr1 := (blk_cell BR2.out 1).trans (show _ = some (.int .i64 0) from rfl); have crf1 := blk_frozen BR2.out 1; have cr2 := (blk_cell BR2.out 2).trans (show _ = some (.int .i64 0) from rfl); have crf2 := blk_frozen BR2.out 2; have cr3 := (blk_cell BR2.out 3).trans (show _ = some (.int .i64 0) from rfl); have crf3 := blk_frozen BR2.out 3; have cr4 := (blk_cell BR2.out 4).trans (show _ = some (.int .i64 0) from rfl); have crf4 := blk_frozen BR2.out 4; have cr5 := (blk_cell BR2.out 5).trans (show _ = some (.int .i64 0) from rfl); have crf5 := blk_frozen BR2.out 5; have cr6 := (blk_cell BR2.out 6).trans (show _ = some (.int .i64 0) from rfl); have crf6 := blk_frozen BR2.out 6; have cr7 := (blk_cell BR2.out 7).trans (show _ = some (.int .i64 0) from rfl); have crf7 := blk_frozen BR2.out 7)
    | ((with_reducible refine gate_store (t := 87) (p := 2) rfl ?_); refine store_event (t := 87) (p := 2) (v := ?vo2) (w1 := (put8 w2 g2 (.int .i64 0) (.int .i64 0) (.int .i64 0) (.int .i64 0) (.int .i64 0) (.int .i64 0) (.int .i64 0) (.int .i64 0)).drewN n1) ?hg ?ho ?hn ?hr ?_; (case ho => rfl); (case hg => rfl); (case hn => rfl); (case hr => first | (go_simp; done) | (go_simp; rfl)); intro w9 hw; have BX := Aside0.mk (show w9.heap[g2]? = some (.cells #[.int .i64 0, .int .i64 0, .int .i64 0, .int .i64 0, .int .i64 0, .int .i64 0, .int .i64 0, .int .i64 0] 87 (0, 0)) from by rw [hw]; exact blk_drewN (put8_blk BR2.out (.int .i64 0) (.int .i64 0) (.int .i64 0) (.int .i64 0) (.int .i64 0) (.int .i64 0) (.int .i64 0) (.int .i64 0)) _); have HX := Aside0.mk (show Below w.heap.size w w9 from by rw [hw]; exact pw_below_drewN (HB2.out.grown (put8_grown w2 g2 (.int .i64 0) (.int .i64 0) (.int .i64 0) (.int .i64 0) (.int .i64 0) (.int .i64 0) (.int .i64 0) (.int .i64 0)) (below_size HB2.out) (fun q hq => by cases hq; exact GR.out)) _); clear hw))
  refine bodyPost_ret (results_ct rfl _ _ g2 87 #[.int .i64 0, .int .i64 0, .int .i64 0, .int .i64 0, .int .i64 0, .int .i64 0, .int .i64 0, .int .i64 0] (0, 0) _ rfl BX.out Try.underlying87 rfl (by kernel_rfl)) rfl ?_
  exact ⟨T, x, rfl, HX.out⟩
set_option maxHeartbeats 8000000 in
set_option maxRecDepth 100000 in
theorem UTC_dd (A0 : Option Addr) (c0 : Nat) (l : List Int) (S : ByteArray) (v Y mo d h mi n a : Int) (R4 R5 : ByteArray) (w : World) (hr0 : Kd.C (Kd.int .u8) w A0 l.length l) (hS : S = strOfNums l) (ev : v = dv2 S) (x1 : dg2 S = true) (x2 : (dg2 (dr2 S) && dg2 (dr2 (dr2 S)) && dg2 (dr2 (dr2 (dr2 S))) && dg2 (dr2 (dr2 (dr2 (dr2 S))))) = false) (ey : Y = if 2069 ≤ v + 2000 then v + 1900 else v + 2000) :
    Calls Try.prog 84 #[.slice A0 l.length c0] w (PBad w) := by
  have bv := dv2_range x1
  rw [← ev] at bv
  have EV' := Aside0.mk ev
  have X1' := Aside0.mk x1
  have X2' := Aside0.mk x2
  have EY' := Aside0.mk ey
  have HR0 := Aside0.mk hr0
  have HS := Aside0.mk hS
  have HB0 := Aside0.mk (Below.refl w.heap.size w)
  clear hr0 hS ev x1 x2 ey
  go_enter Try.func84, Try.ntmps84
  go_upto_if 27 with (first
    | ((with_reducible refine gate_dst (N := 2) rfl ?_); refine box_event ?hg (N := 2) ?hd (cs := #[.int .i64 0, .int .i64 0, .int .i64 0, .int .i64 0, .int .i64 0, .int .i64 0, .int .i64 0, .int .i64 0]) (t := 87) ?hr ?_; (case hd => rfl); (case hg => rfl); (case hr => first | (go_simp; done) | (go_simp; rfl)); intro g2 hg w1 hbox hb; have BR1 := Aside0.mk hbox; have HB1 := Aside0.mk (below_step HB0.out hb); have GR := Aside0.mk (show w.heap.size ≤ g2 by rw [hg]; exact Nat.le_refl _); clear hbox hb hg)
    | (go_at_call 97; (with_reducible refine (errors_New_any _ _).mono ?_); rintro e w2 ⟨T, x, rfl, hb⟩; have BR2 := Aside0.mk (blk_below BR1.out hb); have HB2 := Aside0.mk (below_step HB1.out hb); have hcv := Kd.C_string (P := Try.prog) (A := A0) (c := c0) Try.underlying25 Try.underlying5 Try.underlying9 (Kd.C_below HR0.out HB2.out); rw [← HS.out] at hcv; clear hb)
    | (go_at_call 98; (with_reducible refine (dig2_yes S _ X1'.out).mono ?_); rw [← EV'.out]; rintro e w3 ⟨rfl, ⟨n1, rfl⟩⟩; clear hcv))
  (try simp only [Act.put, List.setIfInBounds_toArray, List.set_cons_zero, List.set_cons_succ])
  go_cut [5] (fun v5 wc => v5 = .int .i64 Y ∧ wc = w2.drewN n1)
  case first =>
    by_cases hy : 2069 ≤ v + 2000
    · have ty : decide (2069 ≤ v + 2000) = true := decide_eq_true hy
      have HE := Aside0.mk (show Y = v + 1900 from by rw [EY'.out]; rw [if_pos hy])
      clear hy
      (first | rw [ty] | skip)
      go_wp2
      go_meet
      case rel => exact ⟨congrArg (Value.int .i64) (by rw [HE.out]; first | done | omega), rfl⟩
    · have ty : decide (2069 ≤ v + 2000) = false := decide_eq_false hy
      have HE := Aside0.mk (show Y = v + 2000 from by rw [EY'.out]; rw [if_neg hy])
      clear hy
      (first | rw [ty] | skip)
      go_wp2
      go_meet
      case rel => exact ⟨congrArg (Value.int .i64) (by rw [HE.out]; first | done | omega), rfl⟩
  case rest =>
    obtain ⟨rfl, rfl⟩ := hcut
    clear EY' bv
    go_wp2_with (first
      | (go_at_call 99; (with_reducible refine (zzDate_no_any Y (dr2 S) _ X2'.out).mono ?_); rintro e w3 ⟨q0, q1, q2, q3, q4, q5, q6, q7, qr, rfl, hb⟩; have BR3 := Aside0.mk (blk_below (blk_drewN BR2.out n1) hb); have HB3 := Aside0.mk (below_step (pw_below_drewN HB2.out n1) hb); clear hb)
      | ((with_reducible refine gate_dst (N := 8) rfl ?_); refine box_event ?hg (N := 8) ?hd (cs := #[.int .i64 0, .int .i64 0, .int .i64 0, .int .i64 0, .int .i64 0, .int .i64 0, .int .i64 0, .int .i64 0]) (t := 87) ?hr ?_; (case hd => rfl); (case hg => rfl); (case hr => first | (go_simp; done) | (go_simp; rfl)); intro g8 hg w4 hbox hb; have BR4 := Aside0.mk (blk_below BR3.out hb); have HB4 := Aside0.mk (below_step HB3.out hb); have BT4 := Aside0.mk hbox; have GT := Aside0.mk (show w.heap.size ≤ g8 by rw [hg]; exact below_size HB3.out); have NE := Aside0.mk (show g2 ≠ g8 by rw [hg]; exact Nat.ne_of_lt (blk_lt BR3.out)); have ct0 := (blk_cell BT4.out 0).trans (show _ = some (.int .i64 0) from rfl); have ctf0 := blk_frozen BT4.out 0; have ct1 := (blk_cell BT4.out 1).trans (show _ = some (.int .i64 0) from rfl); have ctf1 := blk_frozen BT4.out 1; have ct2 := (blk_cell BT4.out 2).trans (show _ = some (.int .i64 0) from rfl); have ctf2 := blk_frozen BT4.out 2; have ct3 := (blk_cell BT4.out 3).trans (show _ = some (.int .i64 0) from rfl); have ctf3 := blk_frozen BT4.out 3; have ct4 := (blk_cell BT4.out 4).trans (show _ = some (.int .i64 0) from rfl); have ctf4 := blk_frozen BT4.out 4; have ct5 := (blk_cell BT4.out 5).trans (show _ = some (.int .i64 0) from rfl); have ctf5 := blk_frozen BT4.out 5; have ct6 := (blk_cell BT4.out 6).trans (show _ = some (.int .i64 0) from rfl); have ctf6 := blk_frozen BT4.out 6; have ct7 := (blk_cell BT4.out 7).trans (show _ = some (.int .i64 0) from rfl); have ctf7 := blk_frozen BT4.out 7; clear hbox hb hg)
      | ((with_reducible refine gate_store (t := 87) (p := 8) rfl ?_); refine store_event (t := 87) (p := 8) (v := ?vo8) (w1 := put8 (w4) g8 (.int .i64 q0) (.int .i64 q1) (.int .i64 q2) (.int .i64 q3) (.int .i64 q4) (.int .i64 q5) (.int .i64 q6) (.int .i64 q7)) ?hg ?ho ?hn ?hr ?_; (case ho => rfl); (case hg => rfl); (case hn => rfl); (case hr => first | (go_simp; done) | (go_simp; rfl)); intro w5 hw; have BT5 := Aside0.mk (show w5.heap[g8]? = some (.cells #[.int .i64 q0, .int .i64 q1, .int .i64 q2, .int .i64 q3, .int .i64 q4, .int .i64 q5, .int .i64 q6, .int .i64 q7] 87 (0, 0)) from by rw [hw]; exact put8_blk BT4.out (.int .i64 q0) (.int .i64 q1) (.int .i64 q2) (.int .i64 q3) (.int .i64 q4) (.int .i64 q5) (.int .i64 q6) (.int .i64 q7)); have BR5 := Aside0.mk (show w5.heap[g2]? = some (.cells #[.int .i64 0, .int .i64 0, .int .i64 0, .int .i64 0, .int .i64 0, .int .i64 0, .int .i64 0, .int .i64 0] 87 (0, 0)) from by rw [hw]; exact blk_grown BR4.out (put8_grown w4 g8 (.int .i64 q0) (.int .i64 q1) (.int .i64 q2) (.int .i64 q3) (.int .i64 q4) (.int .i64 q5) (.int .i64 q6) (.int .i64 q7)) (fun e => NE.out (by injection e))); have HB5 := Aside0.mk (show Below w.heap.size w w5 from by rw [hw]; exact HB4.out.grown (put8_grown w4 g8 (.int .i64 q0) (.int .i64 q1) (.int .i64 q2) (.int .i64 q3) (.int .i64 q4) (.int .i64 q5) (.int .i64 q6) (.int .i64 q7)) (below_size HB4.out) (fun q hq => by cases hq; exact GT.out)); clear ct0 ctf0 ct1 ctf1 ct2 ctf2 ct3 ctf3 ct4 ctf4 ct5 ctf5 ct6 ctf6 ct7 ctf7; have ct0 := (blk_cell BT5.out 0).trans (show _ = some (.int .i64 q0) from rfl); have ctf0 := blk_frozen BT5.out 0; have ct1 := (blk_cell BT5.out 1).trans (show _ = some (.int .i64 q1) from rfl); have ctf1 := blk_frozen BT5.out 1; have ct2 := (blk_cell BT5.out 2).trans (show _ = some (.int .i64 q2) from rfl); have ctf2 := blk_frozen BT5.out 2; have ct3 := (blk_cell BT5.out 3).trans (show _ = some (.int .i64 q3) from rfl); have ctf3 := blk_frozen BT5.out 3; have ct4 := (blk_cell BT5.out 4).trans (show _ = some (.int .i64 q4) from rfl); have ctf4 := blk_frozen BT5.out 4; have ct5 := (blk_cell BT5.out 5).trans (show _ = some (.int .i64 q5) from rfl); have ctf5 := blk_frozen BT5.out 5; have ct6 := (blk_cell BT5.out 6).trans (show _ = some (.int .i64 q6) from rfl); have ctf6 := blk_frozen BT5.out 6; have ct7 := (blk_cell BT5.out 7).trans (show _ = some (.int .i64 q7) from rfl); have ctf7 := blk_frozen BT5.out 7; have cr0 := (blk_cell BR5.out 0).trans (show _ = some (.int .i64 0) from rfl); have crf0 := blk_frozen BR5.out 0; have cr1 := (blk_cell BR5.out 1).trans (show _ = some (.int .i64 0) from rfl); have crf1 := blk_frozen BR5.out 1; have cr2 := (blk_cell BR5.out 2).trans (show _ = some (.int .i64 0) from rfl); have crf2 := blk_frozen BR5.out 2; have cr3 := (blk_cell BR5.out 3).trans (show _ = some (.int .i64 0) from rfl); have crf3 := blk_frozen BR5.out 3; have cr4 := (blk_cell BR5.out 4).trans (show _ = some (.int .i64 0) from rfl); have crf4 := blk_frozen BR5.out 4; have cr5 := (blk_cell BR5.out 5).trans (show _ = some (.int .i64 0) from rfl); have crf5 := blk_frozen BR5.out 5; have cr6 := (blk_cell BR5.out 6).trans (show _ = some (.int .i64 0) from rfl); have crf6 := blk_frozen BR5.out 6; have cr7 := (blk_cell BR5.out 7).trans (show _ = some (.int .i64 0) from rfl); have crf7 := blk_frozen BR5.out 7; clear hw)
      | ((with_reducible refine gate_store (t := 87) (p := 2) rfl ?_); refine store_event (t := 87) (p := 2) (v := ?vo2) (w1 := (put8 w5 g2 (.int .i64 0) (.int .i64 0) (.int .i64 0) (.int .i64 0) (.int .i64 0) (.int .i64 0) (.int .i64 0) (.int .i64 0))) ?hg ?ho ?hn ?hr ?_; (case ho => rfl); (case hg => rfl); (case hn => rfl); (case hr => first | (go_simp; done) | (go_simp; rfl)); intro w9 hw; have BX := Aside0.mk (show w9.heap[g2]? = some (.cells #[.int .i64 0, .int .i64 0, .int .i64 0, .int .i64 0, .int .i64 0, .int .i64 0, .int .i64 0, .int .i64 0] 87 (0, 0)) from by rw [hw]; exact put8_blk BR5.out (.int .i64 0) (.int .i64 0) (.int .i64 0) (.int .i64 0) (.int .i64 0) (.int .i64 0) (.int .i64 0) (.int .i64 0)); have HX := Aside0.mk (show Below w.heap.size w w9 from by rw [hw]; exact HB5.out.grown (put8_grown w5 g2 (.int .i64 0) (.int .i64 0) (.int .i64 0) (.int .i64 0) (.int .i64 0) (.int .i64 0) (.int .i64 0) (.int .i64 0)) (below_size HB5.out) (fun q hq => by cases hq; exact GR.out)); clear hw))
    refine bodyPost_ret (results_ct rfl _ _ g2 87 #[.int .i64 0, .int .i64 0, .int .i64 0, .int .i64 0, .int .i64 0, .int .i64 0, .int .i64 0, .int .i64 0] (0, 0) _ rfl BX.out Try.underlying87 rfl (by kernel_rfl)) rfl ?_
    exact ⟨T, x, rfl, HX.out⟩
set_option maxHeartbeats 8000000 in
set_option maxRecDepth 100000 in
theorem UTC_db (A0 : Option Addr) (c0 : Nat) (l : List Int) (S : ByteArray) (v Y mo d h mi n a : Int) (R4 R5 : ByteArray) (w : World) (hr0 : Kd.C (Kd.int .u8) w A0 l.length l) (hS : S = strOfNums l) (ev : v = dv2 S) (x1 : dg2 S = true) (z0 : dg2 (dr2 S) = true) (z1 : dg2 (dr2 (dr2 S)) = true) (z2 : dg2 (dr2 (dr2 (dr2 S))) = true) (z3 : dg2 (dr2 (dr2 (dr2 (dr2 S)))) = true) (e1 : mo = dv2 (dr2 S)) (e2 : d = dv2 (dr2 (dr2 S))) (e3 : h = dv2 (dr2 (dr2 (dr2 S)))) (e4 : mi = dv2 (dr2 (dr2 (dr2 (dr2 S))))) (e5 : R4 = dr2 (dr2 (dr2 (dr2 (dr2 S))))) (x3 : dateB Y mo d h mi = false) (ey : Y = if 2069 ≤ v + 2000 then v + 1900 else v + 2000) :
    Calls Try.prog 84 #[.slice A0 l.length c0] w (PBad w) := by
  have bv := dv2_range x1
  rw [← ev] at bv
  have bY : 0 ≤ Y ∧ Y ≤ 3000 := by rw [ey]; split <;> omega
  have EV' := Aside0.mk ev
  have X1' := Aside0.mk x1
  have Z0' := Aside0.mk z0
  have Z1' := Aside0.mk z1
  have Z2' := Aside0.mk z2
  have Z3' := Aside0.mk z3
  have E1' := Aside0.mk e1
  have E2' := Aside0.mk e2
  have E3' := Aside0.mk e3
  have E4' := Aside0.mk e4
  have E5' := Aside0.mk e5
  have X3' := Aside0.mk x3
  have EY' := Aside0.mk ey
  have HR0 := Aside0.mk hr0
  have HS := Aside0.mk hS
  have HB0 := Aside0.mk (Below.refl w.heap.size w)
  clear hr0 hS ev x1 z0 z1 z2 z3 e1 e2 e3 e4 e5 x3 ey
  go_enter Try.func84, Try.ntmps84
  go_upto_if 27 with (first
    | ((with_reducible refine gate_dst (N := 2) rfl ?_); refine box_event ?hg (N := 2) ?hd (cs := #[.int .i64 0, .int .i64 0, .int .i64 0, .int .i64 0, .int .i64 0, .int .i64 0, .int .i64 0, .int .i64 0]) (t := 87) ?hr ?_; (case hd => rfl); (case hg => rfl); (case hr => first | (go_simp; done) | (go_simp; rfl)); intro g2 hg w1 hbox hb; have BR1 := Aside0.mk hbox; have HB1 := Aside0.mk (below_step HB0.out hb); have GR := Aside0.mk (show w.heap.size ≤ g2 by rw [hg]; exact Nat.le_refl _); clear hbox hb hg)
    | (go_at_call 97; (with_reducible refine (errors_New_any _ _).mono ?_); rintro e w2 ⟨T, x, rfl, hb⟩; have BR2 := Aside0.mk (blk_below BR1.out hb); have HB2 := Aside0.mk (below_step HB1.out hb); have hcv := Kd.C_string (P := Try.prog) (A := A0) (c := c0) Try.underlying25 Try.underlying5 Try.underlying9 (Kd.C_below HR0.out HB2.out); rw [← HS.out] at hcv; clear hb)
    | (go_at_call 98; (with_reducible refine (dig2_yes S _ X1'.out).mono ?_); rw [← EV'.out]; rintro e w3 ⟨rfl, ⟨n1, rfl⟩⟩; clear hcv))
  (try simp only [Act.put, List.setIfInBounds_toArray, List.set_cons_zero, List.set_cons_succ])
  go_cut [5] (fun v5 wc => v5 = .int .i64 Y ∧ wc = w2.drewN n1)
  case first =>
    by_cases hy : 2069 ≤ v + 2000
    · have ty : decide (2069 ≤ v + 2000) = true := decide_eq_true hy
      have HE := Aside0.mk (show Y = v + 1900 from by rw [EY'.out]; rw [if_pos hy])
      clear hy
      (first | rw [ty] | skip)
      go_wp2
      go_meet
      case rel => exact ⟨congrArg (Value.int .i64) (by rw [HE.out]; first | done | omega), rfl⟩
    · have ty : decide (2069 ≤ v + 2000) = false := decide_eq_false hy
      have HE := Aside0.mk (show Y = v + 2000 from by rw [EY'.out]; rw [if_neg hy])
      clear hy
      (first | rw [ty] | skip)
      go_wp2
      go_meet
      case rel => exact ⟨congrArg (Value.int .i64) (by rw [HE.out]; first | done | omega), rfl⟩
  case rest =>
    obtain ⟨rfl, rfl⟩ := hcut
    clear EY' bv
    go_wp2_with (first
      | (go_at_call 99; (with_reducible refine (zzDate_yes Y mo d h mi (dr2 S) _ Z0'.out Z1'.out Z2'.out Z3'.out E1'.out E2'.out E3'.out E4'.out).mono ?_); rw [X3'.out, ← E5'.out]; rintro e w3 ⟨rfl, hb⟩; have BR3 := Aside0.mk (blk_below (blk_drewN BR2.out n1) hb); have HB3 := Aside0.mk (below_step (pw_below_drewN HB2.out n1) hb); clear hb)
      | ((with_reducible refine gate_dst (N := 8) rfl ?_); refine box_event ?hg (N := 8) ?hd (cs := #[.int .i64 0, .int .i64 0, .int .i64 0, .int .i64 0, .int .i64 0, .int .i64 0, .int .i64 0, .int .i64 0]) (t := 87) ?hr ?_; (case hd => rfl); (case hg => rfl); (case hr => first | (go_simp; done) | (go_simp; rfl)); intro g8 hg w4 hbox hb; have BR4 := Aside0.mk (blk_below BR3.out hb); have HB4 := Aside0.mk (below_step HB3.out hb); have BT4 := Aside0.mk hbox; have GT := Aside0.mk (show w.heap.size ≤ g8 by rw [hg]; exact below_size HB3.out); have NE := Aside0.mk (show g2 ≠ g8 by rw [hg]; exact Nat.ne_of_lt (blk_lt BR3.out)); have ct0 := (blk_cell BT4.out 0).trans (show _ = some (.int .i64 0) from rfl); have ctf0 := blk_frozen BT4.out 0; have ct1 := (blk_cell BT4.out 1).trans (show _ = some (.int .i64 0) from rfl); have ctf1 := blk_frozen BT4.out 1; have ct2 := (blk_cell BT4.out 2).trans (show _ = some (.int .i64 0) from rfl); have ctf2 := blk_frozen BT4.out 2; have ct3 := (blk_cell BT4.out 3).trans (show _ = some (.int .i64 0) from rfl); have ctf3 := blk_frozen BT4.out 3; have ct4 := (blk_cell BT4.out 4).trans (show _ = some (.int .i64 0) from rfl); have ctf4 := blk_frozen BT4.out 4; have ct5 := (blk_cell BT4.out 5).trans (show _ = some (.int .i64 0) from rfl); have ctf5 := blk_frozen BT4.out 5; have ct6 := (blk_cell BT4.out 6).trans (show _ = some (.int .i64 0) from rfl); have ctf6 := blk_frozen BT4.out 6; have ct7 := (blk_cell BT4.out 7).trans (show _ = some (.int .i64 0) from rfl); have ctf7 := blk_frozen BT4.out 7; clear hbox hb hg)
      | ((with_reducible refine gate_store (t := 87) (p := 8) rfl ?_); refine store_event (t := 87) (p := 8) (v := ?vo8) (w1 := put8 (w4) g8 (.int .i64 Y) (.int .i64 mo) (.int .i64 d) (.int .i64 h) (.int .i64 mi) (.int .i64 0) (.int .i64 0) (.int .i64 0)) ?hg ?ho ?hn ?hr ?_; (case ho => rfl); (case hg => rfl); (case hn => rfl); (case hr => first | (go_simp; done) | (go_simp; rfl)); intro w5 hw; have BT5 := Aside0.mk (show w5.heap[g8]? = some (.cells #[.int .i64 Y, .int .i64 mo, .int .i64 d, .int .i64 h, .int .i64 mi, .int .i64 0, .int .i64 0, .int .i64 0] 87 (0, 0)) from by rw [hw]; exact put8_blk BT4.out (.int .i64 Y) (.int .i64 mo) (.int .i64 d) (.int .i64 h) (.int .i64 mi) (.int .i64 0) (.int .i64 0) (.int .i64 0)); have BR5 := Aside0.mk (show w5.heap[g2]? = some (.cells #[.int .i64 0, .int .i64 0, .int .i64 0, .int .i64 0, .int .i64 0, .int .i64 0, .int .i64 0, .int .i64 0] 87 (0, 0)) from by rw [hw]; exact blk_grown BR4.out (put8_grown w4 g8 (.int .i64 Y) (.int .i64 mo) (.int .i64 d) (.int .i64 h) (.int .i64 mi) (.int .i64 0) (.int .i64 0) (.int .i64 0)) (fun e => NE.out (by injection e))); have HB5 := Aside0.mk (show Below w.heap.size w w5 from by rw [hw]; exact HB4.out.grown (put8_grown w4 g8 (.int .i64 Y) (.int .i64 mo) (.int .i64 d) (.int .i64 h) (.int .i64 mi) (.int .i64 0) (.int .i64 0) (.int .i64 0)) (below_size HB4.out) (fun q hq => by cases hq; exact GT.out)); clear ct0 ctf0 ct1 ctf1 ct2 ctf2 ct3 ctf3 ct4 ctf4 ct5 ctf5 ct6 ctf6 ct7 ctf7; have ct0 := (blk_cell BT5.out 0).trans (show _ = some (.int .i64 Y) from rfl); have ctf0 := blk_frozen BT5.out 0; have ct1 := (blk_cell BT5.out 1).trans (show _ = some (.int .i64 mo) from rfl); have ctf1 := blk_frozen BT5.out 1; have ct2 := (blk_cell BT5.out 2).trans (show _ = some (.int .i64 d) from rfl); have ctf2 := blk_frozen BT5.out 2; have ct3 := (blk_cell BT5.out 3).trans (show _ = some (.int .i64 h) from rfl); have ctf3 := blk_frozen BT5.out 3; have ct4 := (blk_cell BT5.out 4).trans (show _ = some (.int .i64 mi) from rfl); have ctf4 := blk_frozen BT5.out 4; have ct5 := (blk_cell BT5.out 5).trans (show _ = some (.int .i64 0) from rfl); have ctf5 := blk_frozen BT5.out 5; have ct6 := (blk_cell BT5.out 6).trans (show _ = some (.int .i64 0) from rfl); have ctf6 := blk_frozen BT5.out 6; have ct7 := (blk_cell BT5.out 7).trans (show _ = some (.int .i64 0) from rfl); have ctf7 := blk_frozen BT5.out 7; have cr0 := (blk_cell BR5.out 0).trans (show _ = some (.int .i64 0) from rfl); have crf0 := blk_frozen BR5.out 0; have cr1 := (blk_cell BR5.out 1).trans (show _ = some (.int .i64 0) from rfl); have crf1 := blk_frozen BR5.out 1; have cr2 := (blk_cell BR5.out 2).trans (show _ = some (.int .i64 0) from rfl); have crf2 := blk_frozen BR5.out 2; have cr3 := (blk_cell BR5.out 3).trans (show _ = some (.int .i64 0) from rfl); have crf3 := blk_frozen BR5.out 3; have cr4 := (blk_cell BR5.out 4).trans (show _ = some (.int .i64 0) from rfl); have crf4 := blk_frozen BR5.out 4; have cr5 := (blk_cell BR5.out 5).trans (show _ = some (.int .i64 0) from rfl); have crf5 := blk_frozen BR5.out 5; have cr6 := (blk_cell BR5.out 6).trans (show _ = some (.int .i64 0) from rfl); have crf6 := blk_frozen BR5.out 6; have cr7 := (blk_cell BR5.out 7).trans (show _ = some (.int .i64 0) from rfl); have crf7 := blk_frozen BR5.out 7; clear hw)
      | ((with_reducible refine gate_store (t := 87) (p := 2) rfl ?_); refine store_event (t := 87) (p := 2) (v := ?vo2) (w1 := (put8 w5 g2 (.int .i64 0) (.int .i64 0) (.int .i64 0) (.int .i64 0) (.int .i64 0) (.int .i64 0) (.int .i64 0) (.int .i64 0))) ?hg ?ho ?hn ?hr ?_; (case ho => rfl); (case hg => rfl); (case hn => rfl); (case hr => first | (go_simp; done) | (go_simp; rfl)); intro w9 hw; have BX := Aside0.mk (show w9.heap[g2]? = some (.cells #[.int .i64 0, .int .i64 0, .int .i64 0, .int .i64 0, .int .i64 0, .int .i64 0, .int .i64 0, .int .i64 0] 87 (0, 0)) from by rw [hw]; exact put8_blk BR5.out (.int .i64 0) (.int .i64 0) (.int .i64 0) (.int .i64 0) (.int .i64 0) (.int .i64 0) (.int .i64 0) (.int .i64 0)); have HX := Aside0.mk (show Below w.heap.size w w9 from by rw [hw]; exact HB5.out.grown (put8_grown w5 g2 (.int .i64 0) (.int .i64 0) (.int .i64 0) (.int .i64 0) (.int .i64 0) (.int .i64 0) (.int .i64 0) (.int .i64 0)) (below_size HB5.out) (fun q hq => by cases hq; exact GR.out)); clear hw))
    refine bodyPost_ret (results_ct rfl _ _ g2 87 #[.int .i64 0, .int .i64 0, .int .i64 0, .int .i64 0, .int .i64 0, .int .i64 0, .int .i64 0, .int .i64 0] (0, 0) _ rfl BX.out Try.underlying87 rfl (by kernel_rfl)) rfl ?_
    exact ⟨T, x, rfl, HX.out⟩
set_option maxHeartbeats 8000000 in
set_option maxRecDepth 100000 in
theorem UTC_s60 (A0 : Option Addr) (c0 : Nat) (l : List Int) (S : ByteArray) (v Y mo d h mi n a : Int) (R4 R5 : ByteArray) (w : World) (hr0 : Kd.C (Kd.int .u8) w A0 l.length l) (hS : S = strOfNums l) (ev : v = dv2 S) (x1 : dg2 S = true) (z0 : dg2 (dr2 S) = true) (z1 : dg2 (dr2 (dr2 S)) = true) (z2 : dg2 (dr2 (dr2 (dr2 S))) = true) (z3 : dg2 (dr2 (dr2 (dr2 (dr2 S)))) = true) (e1 : mo = dv2 (dr2 S)) (e2 : d = dv2 (dr2 (dr2 S))) (e3 : h = dv2 (dr2 (dr2 (dr2 S)))) (e4 : mi = dv2 (dr2 (dr2 (dr2 (dr2 S))))) (e5 : R4 = dr2 (dr2 (dr2 (dr2 (dr2 S))))) (x3 : dateB Y mo d h mi = true) (x4 : dg2 R4 = true) (e6 : n = dv2 R4) (x5 : 60 ≤ n) (ey : Y = if 2069 ≤ v + 2000 then v + 1900 else v + 2000) :
    Calls Try.prog 84 #[.slice A0 l.length c0] w (PBad w) := by
  have bv := dv2_range x1
  rw [← ev] at bv
  have bn := dv2_range x4
  rw [← e6] at bn
  have bY : 0 ≤ Y ∧ Y ≤ 3000 := by rw [ey]; split <;> omega
  have EV' := Aside0.mk ev
  have X1' := Aside0.mk x1
  have Z0' := Aside0.mk z0
  have Z1' := Aside0.mk z1
  have Z2' := Aside0.mk z2
  have Z3' := Aside0.mk z3
  have E1' := Aside0.mk e1
  have E2' := Aside0.mk e2
  have E3' := Aside0.mk e3
  have E4' := Aside0.mk e4
  have E5' := Aside0.mk e5
  have X3' := Aside0.mk x3
  have X4' := Aside0.mk x4
  have E6' := Aside0.mk e6
  have X5' := Aside0.mk x5
  have EY' := Aside0.mk ey
  have t60 : decide (60 ≤ n) = true := decide_eq_true x5
  have HR0 := Aside0.mk hr0
  have HS := Aside0.mk hS
  have HB0 := Aside0.mk (Below.refl w.heap.size w)
  clear hr0 hS ev x1 z0 z1 z2 z3 e1 e2 e3 e4 e5 x3 x4 e6 x5 ey
  go_enter Try.func84, Try.ntmps84
  go_upto_if 27 with (first
    | ((with_reducible refine gate_dst (N := 2) rfl ?_); refine box_event ?hg (N := 2) ?hd (cs := #[.int .i64 0, .int .i64 0, .int .i64 0, .int .i64 0, .int .i64 0, .int .i64 0, .int .i64 0, .int .i64 0]) (t := 87) ?hr ?_; (case hd => rfl); (case hg => rfl); (case hr => first | (go_simp; done) | (go_simp; rfl)); intro g2 hg w1 hbox hb; have BR1 := Aside0.mk hbox; have HB1 := Aside0.mk (below_step HB0.out hb); have GR := Aside0.mk (show w.heap.size ≤ g2 by rw [hg]; exact Nat.le_refl _); clear hbox hb hg)
    | (go_at_call 97; (with_reducible refine (errors_New_any _ _).mono ?_); rintro e w2 ⟨T, x, rfl, hb⟩; have BR2 := Aside0.mk (blk_below BR1.out hb); have HB2 := Aside0.mk (below_step HB1.out hb); have hcv := Kd.C_string (P := Try.prog) (A := A0) (c := c0) Try.underlying25 Try.underlying5 Try.underlying9 (Kd.C_below HR0.out HB2.out); rw [← HS.out] at hcv; clear hb)
    | (go_at_call 98; (with_reducible refine (dig2_yes S _ X1'.out).mono ?_); rw [← EV'.out]; rintro e w3 ⟨rfl, ⟨n1, rfl⟩⟩; clear hcv))
  (try simp only [Act.put, List.setIfInBounds_toArray, List.set_cons_zero, List.set_cons_succ])
  go_cut [5] (fun v5 wc => v5 = .int .i64 Y ∧ wc = w2.drewN n1)
  case first =>
    by_cases hy : 2069 ≤ v + 2000
    · have ty : decide (2069 ≤ v + 2000) = true := decide_eq_true hy
      have HE := Aside0.mk (show Y = v + 1900 from by rw [EY'.out]; rw [if_pos hy])
      clear hy
      (first | rw [ty] | skip)
      go_wp2
      go_meet
      case rel => exact ⟨congrArg (Value.int .i64) (by rw [HE.out]; first | done | omega), rfl⟩
    · have ty : decide (2069 ≤ v + 2000) = false := decide_eq_false hy
      have HE := Aside0.mk (show Y = v + 2000 from by rw [EY'.out]; rw [if_neg hy])
      clear hy
      (first | rw [ty] | skip)
      go_wp2
      go_meet
      case rel => exact ⟨congrArg (Value.int .i64) (by rw [HE.out]; first | done | omega), rfl⟩
  case rest =>
    obtain ⟨rfl, rfl⟩ := hcut
    clear EY' bv
    go_wp2_with (first
      | (go_at_call 99; (with_reducible refine (zzDate_yes Y mo d h mi (dr2 S) _ Z0'.out Z1'.out Z2'.out Z3'.out E1'.out E2'.out E3'.out E4'.out).mono ?_); rw [X3'.out, ← E5'.out]; rintro e w3 ⟨rfl, hb⟩; have BR3 := Aside0.mk (blk_below (blk_drewN BR2.out n1) hb); have HB3 := Aside0.mk (below_step (pw_below_drewN HB2.out n1) hb); clear hb)
      | ((with_reducible refine gate_dst (N := 8) rfl ?_); refine box_event ?hg (N := 8) ?hd (cs := #[.int .i64 0, .int .i64 0, .int .i64 0, .int .i64 0, .int .i64 0, .int .i64 0, .int .i64 0, .int .i64 0]) (t := 87) ?hr ?_; (case hd => rfl); (case hg => rfl); (case hr => first | (go_simp; done) | (go_simp; rfl)); intro g8 hg w4 hbox hb; have BR4 := Aside0.mk (blk_below BR3.out hb); have HB4 := Aside0.mk (below_step HB3.out hb); have BT4 := Aside0.mk hbox; have GT := Aside0.mk (show w.heap.size ≤ g8 by rw [hg]; exact below_size HB3.out); have NE := Aside0.mk (show g2 ≠ g8 by rw [hg]; exact Nat.ne_of_lt (blk_lt BR3.out)); have ct0 := (blk_cell BT4.out 0).trans (show _ = some (.int .i64 0) from rfl); have ctf0 := blk_frozen BT4.out 0; have ct1 := (blk_cell BT4.out 1).trans (show _ = some (.int .i64 0) from rfl); have ctf1 := blk_frozen BT4.out 1; have ct2 := (blk_cell BT4.out 2).trans (show _ = some (.int .i64 0) from rfl); have ctf2 := blk_frozen BT4.out 2; have ct3 := (blk_cell BT4.out 3).trans (show _ = some (.int .i64 0) from rfl); have ctf3 := blk_frozen BT4.out 3; have ct4 := (blk_cell BT4.out 4).trans (show _ = some (.int .i64 0) from rfl); have ctf4 := blk_frozen BT4.out 4; have ct5 := (blk_cell BT4.out 5).trans (show _ = some (.int .i64 0) from rfl); have ctf5 := blk_frozen BT4.out 5; have ct6 := (blk_cell BT4.out 6).trans (show _ = some (.int .i64 0) from rfl); have ctf6 := blk_frozen BT4.out 6; have ct7 := (blk_cell BT4.out 7).trans (show _ = some (.int .i64 0) from rfl); have ctf7 := blk_frozen BT4.out 7; clear hbox hb hg)
      | ((with_reducible refine gate_store (t := 87) (p := 8) rfl ?_); refine store_event (t := 87) (p := 8) (v := ?vo8) (w1 := put8 (w4) g8 (.int .i64 Y) (.int .i64 mo) (.int .i64 d) (.int .i64 h) (.int .i64 mi) (.int .i64 0) (.int .i64 0) (.int .i64 0)) ?hg ?ho ?hn ?hr ?_; (case ho => rfl); (case hg => rfl); (case hn => rfl); (case hr => first | (go_simp; done) | (go_simp; rfl)); intro w5 hw; have BT5 := Aside0.mk (show w5.heap[g8]? = some (.cells #[.int .i64 Y, .int .i64 mo, .int .i64 d, .int .i64 h, .int .i64 mi, .int .i64 0, .int .i64 0, .int .i64 0] 87 (0, 0)) from by rw [hw]; exact put8_blk BT4.out (.int .i64 Y) (.int .i64 mo) (.int .i64 d) (.int .i64 h) (.int .i64 mi) (.int .i64 0) (.int .i64 0) (.int .i64 0)); have BR5 := Aside0.mk (show w5.heap[g2]? = some (.cells #[.int .i64 0, .int .i64 0, .int .i64 0, .int .i64 0, .int .i64 0, .int .i64 0, .int .i64 0, .int .i64 0] 87 (0, 0)) from by rw [hw]; exact blk_grown BR4.out (put8_grown w4 g8 (.int .i64 Y) (.int .i64 mo) (.int .i64 d) (.int .i64 h) (.int .i64 mi) (.int .i64 0) (.int .i64 0) (.int .i64 0)) (fun e => NE.out (by injection e))); have HB5 := Aside0.mk (show Below w.heap.size w w5 from by rw [hw]; exact HB4.out.grown (put8_grown w4 g8 (.int .i64 Y) (.int .i64 mo) (.int .i64 d) (.int .i64 h) (.int .i64 mi) (.int .i64 0) (.int .i64 0) (.int .i64 0)) (below_size HB4.out) (fun q hq => by cases hq; exact GT.out)); clear ct0 ctf0 ct1 ctf1 ct2 ctf2 ct3 ctf3 ct4 ctf4 ct5 ctf5 ct6 ctf6 ct7 ctf7; have ct0 := (blk_cell BT5.out 0).trans (show _ = some (.int .i64 Y) from rfl); have ctf0 := blk_frozen BT5.out 0; have ct1 := (blk_cell BT5.out 1).trans (show _ = some (.int .i64 mo) from rfl); have ctf1 := blk_frozen BT5.out 1; have ct2 := (blk_cell BT5.out 2).trans (show _ = some (.int .i64 d) from rfl); have ctf2 := blk_frozen BT5.out 2; have ct3 := (blk_cell BT5.out 3).trans (show _ = some (.int .i64 h) from rfl); have ctf3 := blk_frozen BT5.out 3; have ct4 := (blk_cell BT5.out 4).trans (show _ = some (.int .i64 mi) from rfl); have ctf4 := blk_frozen BT5.out 4; have ct5 := (blk_cell BT5.out 5).trans (show _ = some (.int .i64 0) from rfl); have ctf5 := blk_frozen BT5.out 5; have ct6 := (blk_cell BT5.out 6).trans (show _ = some (.int .i64 0) from rfl); have ctf6 := blk_frozen BT5.out 6; have ct7 := (blk_cell BT5.out 7).trans (show _ = some (.int .i64 0) from rfl); have ctf7 := blk_frozen BT5.out 7; have cr0 := (blk_cell BR5.out 0).trans (show _ = some (.int .i64 0) from rfl); have crf0 := blk_frozen BR5.out 0; have cr1 := (blk_cell BR5.out 1).trans (show _ = some (.int .i64 0) from rfl); have crf1 := blk_frozen BR5.out 1; have cr2 := (blk_cell BR5.out 2).trans (show _ = some (.int .i64 0) from rfl); have crf2 := blk_frozen BR5.out 2; have cr3 := (blk_cell BR5.out 3).trans (show _ = some (.int .i64 0) from rfl); have crf3 := blk_frozen BR5.out 3; have cr4 := (blk_cell BR5.out 4).trans (show _ = some (.int .i64 0) from rfl); have crf4 := blk_frozen BR5.out 4; have cr5 := (blk_cell BR5.out 5).trans (show _ = some (.int .i64 0) from rfl); have crf5 := blk_frozen BR5.out 5; have cr6 := (blk_cell BR5.out 6).trans (show _ = some (.int .i64 0) from rfl); have crf6 := blk_frozen BR5.out 6; have cr7 := (blk_cell BR5.out 7).trans (show _ = some (.int .i64 0) from rfl); have crf7 := blk_frozen BR5.out 7; clear hw)
      | (go_at_call 98; (with_reducible refine (dig2_yes R4 _ X4'.out).mono ?_); rw [← E6'.out]; rintro e wq ⟨rfl, ⟨n5, rfl⟩⟩)
      | ((with_reducible refine gate_store (t := 87) (p := 2) rfl ?_); refine store_event (t := 87) (p := 2) (v := ?vo2) (w1 := (put8 w5 g2 (.int .i64 0) (.int .i64 0) (.int .i64 0) (.int .i64 0) (.int .i64 0) (.int .i64 0) (.int .i64 0) (.int .i64 0)).drewN n5) ?hg ?ho ?hn ?hr ?_; (case ho => rfl); (case hg => rfl); (case hn => rfl); (case hr => first | (go_simp; done) | (go_simp; rfl)); intro w9 hw; have BX := Aside0.mk (show w9.heap[g2]? = some (.cells #[.int .i64 0, .int .i64 0, .int .i64 0, .int .i64 0, .int .i64 0, .int .i64 0, .int .i64 0, .int .i64 0] 87 (0, 0)) from by rw [hw]; exact blk_drewN (put8_blk BR5.out (.int .i64 0) (.int .i64 0) (.int .i64 0) (.int .i64 0) (.int .i64 0) (.int .i64 0) (.int .i64 0) (.int .i64 0)) _); have HX := Aside0.mk (show Below w.heap.size w w9 from by rw [hw]; exact pw_below_drewN (HB5.out.grown (put8_grown w5 g2 (.int .i64 0) (.int .i64 0) (.int .i64 0) (.int .i64 0) (.int .i64 0) (.int .i64 0) (.int .i64 0) (.int .i64 0)) (below_size HB5.out) (fun q hq => by cases hq; exact GR.out)) _); clear hw))
    refine bodyPost_ret (results_ct rfl _ _ g2 87 #[.int .i64 0, .int .i64 0, .int .i64 0, .int .i64 0, .int .i64 0, .int .i64 0, .int .i64 0, .int .i64 0] (0, 0) _ rfl BX.out Try.underlying87 rfl (by kernel_rfl)) rfl ?_
    exact ⟨T, x, rfl, HX.out⟩
set_option maxHeartbeats 8000000 in
set_option maxRecDepth 100000 in
theorem UTC_z1 (A0 : Option Addr) (c0 : Nat) (l : List Int) (S : ByteArray) (v Y mo d h mi n a : Int) (R4 R5 : ByteArray) (w : World) (hr0 : Kd.C (Kd.int .u8) w A0 l.length l) (hS : S = strOfNums l) (ev : v = dv2 S) (x1 : dg2 S = true) (z0 : dg2 (dr2 S) = true) (z1 : dg2 (dr2 (dr2 S)) = true) (z2 : dg2 (dr2 (dr2 (dr2 S))) = true) (z3 : dg2 (dr2 (dr2 (dr2 (dr2 S)))) = true) (e1 : mo = dv2 (dr2 S)) (e2 : d = dv2 (dr2 (dr2 S))) (e3 : h = dv2 (dr2 (dr2 (dr2 S)))) (e4 : mi = dv2 (dr2 (dr2 (dr2 (dr2 S))))) (e5 : R4 = dr2 (dr2 (dr2 (dr2 (dr2 S))))) (x3 : dateB Y mo d h mi = true) (x4 : dg2 R4 = true) (e6 : n = dv2 R4) (x5 : n < 60) (e7 : R5 = dr2 R4) (x6 : zO R5 = false) (ey : Y = if 2069 ≤ v + 2000 then v + 1900 else v + 2000) :
    Calls Try.prog 84 #[.slice A0 l.length c0] w (PBad w) := by
  have bv := dv2_range x1
  rw [← ev] at bv
  have bn := dv2_range x4
  rw [← e6] at bn
  have bY : 0 ≤ Y ∧ Y ≤ 3000 := by rw [ey]; split <;> omega
  have EV' := Aside0.mk ev
  have X1' := Aside0.mk x1
  have Z0' := Aside0.mk z0
  have Z1' := Aside0.mk z1
  have Z2' := Aside0.mk z2
  have Z3' := Aside0.mk z3
  have E1' := Aside0.mk e1
  have E2' := Aside0.mk e2
  have E3' := Aside0.mk e3
  have E4' := Aside0.mk e4
  have E5' := Aside0.mk e5
  have X3' := Aside0.mk x3
  have X4' := Aside0.mk x4
  have E6' := Aside0.mk e6
  have X5' := Aside0.mk x5
  have E7' := Aside0.mk e7
  have X6' := Aside0.mk x6
  have EY' := Aside0.mk ey
  have t60 : decide (60 ≤ n) = false := decide_eq_false (by omega)
  have HR0 := Aside0.mk hr0
  have HS := Aside0.mk hS
  have HB0 := Aside0.mk (Below.refl w.heap.size w)
  clear hr0 hS ev x1 z0 z1 z2 z3 e1 e2 e3 e4 e5 x3 x4 e6 x5 e7 x6 ey
  go_enter Try.func84, Try.ntmps84
  go_upto_if 27 with (first
    | ((with_reducible refine gate_dst (N := 2) rfl ?_); refine box_event ?hg (N := 2) ?hd (cs := #[.int .i64 0, .int .i64 0, .int .i64 0, .int .i64 0, .int .i64 0, .int .i64 0, .int .i64 0, .int .i64 0]) (t := 87) ?hr ?_; (case hd => rfl); (case hg => rfl); (case hr => first | (go_simp; done) | (go_simp; rfl)); intro g2 hg w1 hbox hb; have BR1 := Aside0.mk hbox; have HB1 := Aside0.mk (below_step HB0.out hb); have GR := Aside0.mk (show w.heap.size ≤ g2 by rw [hg]; exact Nat.le_refl _); clear hbox hb hg)
    | (go_at_call 97; (with_reducible refine (errors_New_any _ _).mono ?_); rintro e w2 ⟨T, x, rfl, hb⟩; have BR2 := Aside0.mk (blk_below BR1.out hb); have HB2 := Aside0.mk (below_step HB1.out hb); have hcv := Kd.C_string (P := Try.prog) (A := A0) (c := c0) Try.underlying25 Try.underlying5 Try.underlying9 (Kd.C_below HR0.out HB2.out); rw [← HS.out] at hcv; clear hb)
    | (go_at_call 98; (with_reducible refine (dig2_yes S _ X1'.out).mono ?_); rw [← EV'.out]; rintro e w3 ⟨rfl, ⟨n1, rfl⟩⟩; clear hcv))
  (try simp only [Act.put, List.setIfInBounds_toArray, List.set_cons_zero, List.set_cons_succ])
  go_cut [5] (fun v5 wc => v5 = .int .i64 Y ∧ wc = w2.drewN n1)
  case first =>
    by_cases hy : 2069 ≤ v + 2000
    · have ty : decide (2069 ≤ v + 2000) = true := decide_eq_true hy
      have HE := Aside0.mk (show Y = v + 1900 from by rw [EY'.out]; rw [if_pos hy])
      clear hy
      (first | rw [ty] | skip)
      go_wp2
      go_meet
      case rel => exact ⟨congrArg (Value.int .i64) (by rw [HE.out]; first | done | omega), rfl⟩
    · have ty : decide (2069 ≤ v + 2000) = false := decide_eq_false hy
      have HE := Aside0.mk (show Y = v + 2000 from by rw [EY'.out]; rw [if_neg hy])
      clear hy
      (first | rw [ty] | skip)
      go_wp2
      go_meet
      case rel => exact ⟨congrArg (Value.int .i64) (by rw [HE.out]; first | done | omega), rfl⟩
  case rest =>
    obtain ⟨rfl, rfl⟩ := hcut
    clear EY' bv
    go_wp2_with (first
      | (go_at_call 99; (with_reducible refine (zzDate_yes Y mo d h mi (dr2 S) _ Z0'.out Z1'.out Z2'.out Z3'.out E1'.out E2'.out E3'.out E4'.out).mono ?_); rw [X3'.out, ← E5'.out]; rintro e w3 ⟨rfl, hb⟩; have BR3 := Aside0.mk (blk_below (blk_drewN BR2.out n1) hb); have HB3 := Aside0.mk (below_step (pw_below_drewN HB2.out n1) hb); clear hb)
      | ((with_reducible refine gate_dst (N := 8) rfl ?_); refine box_event ?hg (N := 8) ?hd (cs := #[.int .i64 0, .int .i64 0, .int .i64 0, .int .i64 0, .int .i64 0, .int .i64 0, .int .i64 0, .int .i64 0]) (t := 87) ?hr ?_; (case hd => rfl); (case hg => rfl); (case hr => first | (go_simp; done) | (go_simp; rfl)); intro g8 hg w4 hbox hb; have BR4 := Aside0.mk (blk_below BR3.out hb); have HB4 := Aside0.mk (below_step HB3.out hb); have BT4 := Aside0.mk hbox; have GT := Aside0.mk (show w.heap.size ≤ g8 by rw [hg]; exact below_size HB3.out); have NE := Aside0.mk (show g2 ≠ g8 by rw [hg]; exact Nat.ne_of_lt (blk_lt BR3.out)); have ct0 := (blk_cell BT4.out 0).trans (show _ = some (.int .i64 0) from rfl); have ctf0 := blk_frozen BT4.out 0; have ct1 := (blk_cell BT4.out 1).trans (show _ = some (.int .i64 0) from rfl); have ctf1 := blk_frozen BT4.out 1; have ct2 := (blk_cell BT4.out 2).trans (show _ = some (.int .i64 0) from rfl); have ctf2 := blk_frozen BT4.out 2; have ct3 := (blk_cell BT4.out 3).trans (show _ = some (.int .i64 0) from rfl); have ctf3 := blk_frozen BT4.out 3; have ct4 := (blk_cell BT4.out 4).trans (show _ = some (.int .i64 0) from rfl); have ctf4 := blk_frozen BT4.out 4; have ct5 := (blk_cell BT4.out 5).trans (show _ = some (.int .i64 0) from rfl); have ctf5 := blk_frozen BT4.out 5; have ct6 := (blk_cell BT4.out 6).trans (show _ = some (.int .i64 0) from rfl); have ctf6 := blk_frozen BT4.out 6; have ct7 := (blk_cell BT4.out 7).trans (show _ = some (.int .i64 0) from rfl); have ctf7 := blk_frozen BT4.out 7; clear hbox hb hg)
      | ((with_reducible refine gate_store (t := 87) (p := 8) rfl ?_); refine store_event (t := 87) (p := 8) (v := ?vo8) (w1 := put8 (w4) g8 (.int .i64 Y) (.int .i64 mo) (.int .i64 d) (.int .i64 h) (.int .i64 mi) (.int .i64 0) (.int .i64 0) (.int .i64 0)) ?hg ?ho ?hn ?hr ?_; (case ho => rfl); (case hg => rfl); (case hn => rfl); (case hr => first | (go_simp; done) | (go_simp; rfl)); intro w5 hw; have BT5 := Aside0.mk (show w5.heap[g8]? = some (.cells #[.int .i64 Y, .int .i64 mo, .int .i64 d, .int .i64 h, .int .i64 mi, .int .i64 0, .int .i64 0, .int .i64 0] 87 (0, 0)) from by rw [hw]; exact put8_blk BT4.out (.int .i64 Y) (.int .i64 mo) (.int .i64 d) (.int .i64 h) (.int .i64 mi) (.int .i64 0) (.int .i64 0) (.int .i64 0)); have BR5 := Aside0.mk (show w5.heap[g2]? = some (.cells #[.int .i64 0, .int .i64 0, .int .i64 0, .int .i64 0, .int .i64 0, .int .i64 0, .int .i64 0, .int .i64 0] 87 (0, 0)) from by rw [hw]; exact blk_grown BR4.out (put8_grown w4 g8 (.int .i64 Y) (.int .i64 mo) (.int .i64 d) (.int .i64 h) (.int .i64 mi) (.int .i64 0) (.int .i64 0) (.int .i64 0)) (fun e => NE.out (by injection e))); have HB5 := Aside0.mk (show Below w.heap.size w w5 from by rw [hw]; exact HB4.out.grown (put8_grown w4 g8 (.int .i64 Y) (.int .i64 mo) (.int .i64 d) (.int .i64 h) (.int .i64 mi) (.int .i64 0) (.int .i64 0) (.int .i64 0)) (below_size HB4.out) (fun q hq => by cases hq; exact GT.out)); clear ct0 ctf0 ct1 ctf1 ct2 ctf2 ct3 ctf3 ct4 ctf4 ct5 ctf5 ct6 ctf6 ct7 ctf7; have ct0 := (blk_cell BT5.out 0).trans (show _ = some (.int .i64 Y) from rfl); have ctf0 := blk_frozen BT5.out 0; have ct1 := (blk_cell BT5.out 1).trans (show _ = some (.int .i64 mo) from rfl); have ctf1 := blk_frozen BT5.out 1; have ct2 := (blk_cell BT5.out 2).trans (show _ = some (.int .i64 d) from rfl); have ctf2 := blk_frozen BT5.out 2; have ct3 := (blk_cell BT5.out 3).trans (show _ = some (.int .i64 h) from rfl); have ctf3 := blk_frozen BT5.out 3; have ct4 := (blk_cell BT5.out 4).trans (show _ = some (.int .i64 mi) from rfl); have ctf4 := blk_frozen BT5.out 4; have ct5 := (blk_cell BT5.out 5).trans (show _ = some (.int .i64 0) from rfl); have ctf5 := blk_frozen BT5.out 5; have ct6 := (blk_cell BT5.out 6).trans (show _ = some (.int .i64 0) from rfl); have ctf6 := blk_frozen BT5.out 6; have ct7 := (blk_cell BT5.out 7).trans (show _ = some (.int .i64 0) from rfl); have ctf7 := blk_frozen BT5.out 7; have cr0 := (blk_cell BR5.out 0).trans (show _ = some (.int .i64 0) from rfl); have crf0 := blk_frozen BR5.out 0; have cr1 := (blk_cell BR5.out 1).trans (show _ = some (.int .i64 0) from rfl); have crf1 := blk_frozen BR5.out 1; have cr2 := (blk_cell BR5.out 2).trans (show _ = some (.int .i64 0) from rfl); have crf2 := blk_frozen BR5.out 2; have cr3 := (blk_cell BR5.out 3).trans (show _ = some (.int .i64 0) from rfl); have crf3 := blk_frozen BR5.out 3; have cr4 := (blk_cell BR5.out 4).trans (show _ = some (.int .i64 0) from rfl); have crf4 := blk_frozen BR5.out 4; have cr5 := (blk_cell BR5.out 5).trans (show _ = some (.int .i64 0) from rfl); have crf5 := blk_frozen BR5.out 5; have cr6 := (blk_cell BR5.out 6).trans (show _ = some (.int .i64 0) from rfl); have crf6 := blk_frozen BR5.out 6; have cr7 := (blk_cell BR5.out 7).trans (show _ = some (.int .i64 0) from rfl); have crf7 := blk_frozen BR5.out 7; clear hw)
      | (go_at_call 98; (with_reducible refine (dig2_yes R4 _ X4'.out).mono ?_); rw [← E6'.out, ← E7'.out]; rintro e wq ⟨rfl, ⟨n5, rfl⟩⟩)
      | ((with_reducible refine gate_store (t := 3) (p := 54) rfl ?_); refine store_event (t := 3) (p := 54) (v := ?vo54) (w1 := (w5.setCell ⟨g8, 5, none⟩ (.int .i64 n)).drewN n5) ?hg ?ho ?hn ?hr ?_; (case ho => rfl); (case hg => rfl); (case hn => rfl); (case hr => first | (go_simp; done) | (go_simp; rfl)); intro w6 hw; have BT6 := Aside0.mk (show w6.heap[g8]? = some (.cells #[.int .i64 Y, .int .i64 mo, .int .i64 d, .int .i64 h, .int .i64 mi, .int .i64 n, .int .i64 0, .int .i64 0] 87 (0, 0)) from by rw [hw]; exact blk_drewN (blk_put (cs := #[.int .i64 Y, .int .i64 mo, .int .i64 d, .int .i64 h, .int .i64 mi, .int .i64 0, .int .i64 0, .int .i64 0]) BT5.out 5 _ rfl) _); have BR6 := Aside0.mk (show w6.heap[g2]? = some (.cells #[.int .i64 0, .int .i64 0, .int .i64 0, .int .i64 0, .int .i64 0, .int .i64 0, .int .i64 0, .int .i64 0] 87 (0, 0)) from by rw [hw]; exact blk_drewN (blk_far BR5.out NE.out _) _); have HB6 := Aside0.mk (show Below w.heap.size w w6 from by rw [hw]; exact pw_below_drewN (below_set HB5.out GT.out) _); clear ct0 ctf0 ct1 ctf1 ct2 ctf2 ct3 ctf3 ct4 ctf4 ct5 ctf5 ct6 ctf6 ct7 ctf7; have ct0 := (blk_cell BT6.out 0).trans (show _ = some (.int .i64 Y) from rfl); have ctf0 := blk_frozen BT6.out 0; have ct1 := (blk_cell BT6.out 1).trans (show _ = some (.int .i64 mo) from rfl); have ctf1 := blk_frozen BT6.out 1; have ct2 := (blk_cell BT6.out 2).trans (show _ = some (.int .i64 d) from rfl); have ctf2 := blk_frozen BT6.out 2; have ct3 := (blk_cell BT6.out 3).trans (show _ = some (.int .i64 h) from rfl); have ctf3 := blk_frozen BT6.out 3; have ct4 := (blk_cell BT6.out 4).trans (show _ = some (.int .i64 mi) from rfl); have ctf4 := blk_frozen BT6.out 4; have ct5 := (blk_cell BT6.out 5).trans (show _ = some (.int .i64 n) from rfl); have ctf5 := blk_frozen BT6.out 5; have ct6 := (blk_cell BT6.out 6).trans (show _ = some (.int .i64 0) from rfl); have ctf6 := blk_frozen BT6.out 6; have ct7 := (blk_cell BT6.out 7).trans (show _ = some (.int .i64 0) from rfl); have ctf7 := blk_frozen BT6.out 7; clear cr0 crf0 cr1 crf1 cr2 crf2 cr3 crf3 cr4 crf4 cr5 crf5 cr6 crf6 cr7 crf7; have cr0 := (blk_cell BR6.out 0).trans (show _ = some (.int .i64 0) from rfl); have crf0 := blk_frozen BR6.out 0; have cr1 := (blk_cell BR6.out 1).trans (show _ = some (.int .i64 0) from rfl); have crf1 := blk_frozen BR6.out 1; have cr2 := (blk_cell BR6.out 2).trans (show _ = some (.int .i64 0) from rfl); have crf2 := blk_frozen BR6.out 2; have cr3 := (blk_cell BR6.out 3).trans (show _ = some (.int .i64 0) from rfl); have crf3 := blk_frozen BR6.out 3; have cr4 := (blk_cell BR6.out 4).trans (show _ = some (.int .i64 0) from rfl); have crf4 := blk_frozen BR6.out 4; have cr5 := (blk_cell BR6.out 5).trans (show _ = some (.int .i64 0) from rfl); have crf5 := blk_frozen BR6.out 5; have cr6 := (blk_cell BR6.out 6).trans (show _ = some (.int .i64 0) from rfl); have crf6 := blk_frozen BR6.out 6; have cr7 := (blk_cell BR6.out 7).trans (show _ = some (.int .i64 0) from rfl); have crf7 := blk_frozen BR6.out 7; clear hw)
      | (go_at_call 100; (with_reducible refine (zone2_any R5 _).mono ?_); rw [X6'.out]; rintro e wq ⟨rfl, ⟨n6, rfl⟩⟩)
      | ((with_reducible refine gate_store (t := 3) (p := 60) rfl ?_); refine store_event (t := 3) (p := 60) (v := ?vo60) (w1 := (w6.setCell ⟨g8, 7, none⟩ (.int .i64 (zV R5))).drewN n6) ?hg ?ho ?hn ?hr ?_; (case ho => rfl); (case hg => rfl); (case hn => rfl); (case hr => first | (go_simp; done) | (go_simp; rfl)); intro w7 hw; have BT7 := Aside0.mk (show w7.heap[g8]? = some (.cells #[.int .i64 Y, .int .i64 mo, .int .i64 d, .int .i64 h, .int .i64 mi, .int .i64 n, .int .i64 0, .int .i64 (zV R5)] 87 (0, 0)) from by rw [hw]; exact blk_drewN (blk_put (cs := #[.int .i64 Y, .int .i64 mo, .int .i64 d, .int .i64 h, .int .i64 mi, .int .i64 n, .int .i64 0, .int .i64 0]) BT6.out 7 _ rfl) _); have BR7 := Aside0.mk (show w7.heap[g2]? = some (.cells #[.int .i64 0, .int .i64 0, .int .i64 0, .int .i64 0, .int .i64 0, .int .i64 0, .int .i64 0, .int .i64 0] 87 (0, 0)) from by rw [hw]; exact blk_drewN (blk_far BR6.out NE.out _) _); have HB7 := Aside0.mk (show Below w.heap.size w w7 from by rw [hw]; exact pw_below_drewN (below_set HB6.out GT.out) _); clear ct0 ctf0 ct1 ctf1 ct2 ctf2 ct3 ctf3 ct4 ctf4 ct5 ctf5 ct6 ctf6 ct7 ctf7; have ct0 := (blk_cell BT7.out 0).trans (show _ = some (.int .i64 Y) from rfl); have ctf0 := blk_frozen BT7.out 0; have ct1 := (blk_cell BT7.out 1).trans (show _ = some (.int .i64 mo) from rfl); have ctf1 := blk_frozen BT7.out 1; have ct2 := (blk_cell BT7.out 2).trans (show _ = some (.int .i64 d) from rfl); have ctf2 := blk_frozen BT7.out 2; have ct3 := (blk_cell BT7.out 3).trans (show _ = some (.int .i64 h) from rfl); have ctf3 := blk_frozen BT7.out 3; have ct4 := (blk_cell BT7.out 4).trans (show _ = some (.int .i64 mi) from rfl); have ctf4 := blk_frozen BT7.out 4; have ct5 := (blk_cell BT7.out 5).trans (show _ = some (.int .i64 n) from rfl); have ctf5 := blk_frozen BT7.out 5; have ct6 := (blk_cell BT7.out 6).trans (show _ = some (.int .i64 0) from rfl); have ctf6 := blk_frozen BT7.out 6; have ct7 := (blk_cell BT7.out 7).trans (show _ = some (.int .i64 (zV R5)) from rfl); have ctf7 := blk_frozen BT7.out 7; clear cr0 crf0 cr1 crf1 cr2 crf2 cr3 crf3 cr4 crf4 cr5 crf5 cr6 crf6 cr7 crf7; have cr0 := (blk_cell BR7.out 0).trans (show _ = some (.int .i64 0) from rfl); have crf0 := blk_frozen BR7.out 0; have cr1 := (blk_cell BR7.out 1).trans (show _ = some (.int .i64 0) from rfl); have crf1 := blk_frozen BR7.out 1; have cr2 := (blk_cell BR7.out 2).trans (show _ = some (.int .i64 0) from rfl); have crf2 := blk_frozen BR7.out 2; have cr3 := (blk_cell BR7.out 3).trans (show _ = some (.int .i64 0) from rfl); have crf3 := blk_frozen BR7.out 3; have cr4 := (blk_cell BR7.out 4).trans (show _ = some (.int .i64 0) from rfl); have crf4 := blk_frozen BR7.out 4; have cr5 := (blk_cell BR7.out 5).trans (show _ = some (.int .i64 0) from rfl); have crf5 := blk_frozen BR7.out 5; have cr6 := (blk_cell BR7.out 6).trans (show _ = some (.int .i64 0) from rfl); have crf6 := blk_frozen BR7.out 6; have cr7 := (blk_cell BR7.out 7).trans (show _ = some (.int .i64 0) from rfl); have crf7 := blk_frozen BR7.out 7; clear hw)
      | ((with_reducible refine gate_store (t := 87) (p := 2) rfl ?_); refine store_event (t := 87) (p := 2) (v := ?vo2) (w1 := (put8 w7 g2 (.int .i64 0) (.int .i64 0) (.int .i64 0) (.int .i64 0) (.int .i64 0) (.int .i64 0) (.int .i64 0) (.int .i64 0))) ?hg ?ho ?hn ?hr ?_; (case ho => rfl); (case hg => rfl); (case hn => rfl); (case hr => first | (go_simp; done) | (go_simp; rfl)); intro w9 hw; have BX := Aside0.mk (show w9.heap[g2]? = some (.cells #[.int .i64 0, .int .i64 0, .int .i64 0, .int .i64 0, .int .i64 0, .int .i64 0, .int .i64 0, .int .i64 0] 87 (0, 0)) from by rw [hw]; exact put8_blk BR7.out (.int .i64 0) (.int .i64 0) (.int .i64 0) (.int .i64 0) (.int .i64 0) (.int .i64 0) (.int .i64 0) (.int .i64 0)); have HX := Aside0.mk (show Below w.heap.size w w9 from by rw [hw]; exact HB7.out.grown (put8_grown w7 g2 (.int .i64 0) (.int .i64 0) (.int .i64 0) (.int .i64 0) (.int .i64 0) (.int .i64 0) (.int .i64 0) (.int .i64 0)) (below_size HB7.out) (fun q hq => by cases hq; exact GR.out)); clear hw))
    refine bodyPost_ret (results_ct rfl _ _ g2 87 #[.int .i64 0, .int .i64 0, .int .i64 0, .int .i64 0, .int .i64 0, .int .i64 0, .int .i64 0, .int .i64 0] (0, 0) _ rfl BX.out Try.underlying87 rfl (by kernel_rfl)) rfl ?_
    exact ⟨T, x, rfl, HX.out⟩
set_option maxHeartbeats 8000000 in
set_option maxRecDepth 100000 in
theorem UTC_z0 (A0 : Option Addr) (c0 : Nat) (l : List Int) (S : ByteArray) (v Y mo d h mi n a : Int) (R4 R5 : ByteArray) (w : World) (hr0 : Kd.C (Kd.int .u8) w A0 l.length l) (hS : S = strOfNums l) (ev : v = dv2 S) (x1 : dg2 S = true) (z0 : dg2 (dr2 S) = true) (z1 : dg2 (dr2 (dr2 S)) = true) (z2 : dg2 (dr2 (dr2 (dr2 S))) = true) (z3 : dg2 (dr2 (dr2 (dr2 (dr2 S)))) = true) (e1 : mo = dv2 (dr2 S)) (e2 : d = dv2 (dr2 (dr2 S))) (e3 : h = dv2 (dr2 (dr2 (dr2 S)))) (e4 : mi = dv2 (dr2 (dr2 (dr2 (dr2 S))))) (e5 : R4 = dr2 (dr2 (dr2 (dr2 (dr2 S))))) (x3 : dateB Y mo d h mi = true) (x4 : dg2 R4 = false) (x6 : zO R4 = false) (ey : Y = if 2069 ≤ v + 2000 then v + 1900 else v + 2000) :
    Calls Try.prog 84 #[.slice A0 l.length c0] w (PBad w) := by
  have bv := dv2_range x1
  rw [← ev] at bv
  have bY : 0 ≤ Y ∧ Y ≤ 3000 := by rw [ey]; split <;> omega
  have EV' := Aside0.mk ev
  have X1' := Aside0.mk x1
  have Z0' := Aside0.mk z0
  have Z1' := Aside0.mk z1
  have Z2' := Aside0.mk z2
  have Z3' := Aside0.mk z3
  have E1' := Aside0.mk e1
  have E2' := Aside0.mk e2
  have E3' := Aside0.mk e3
  have E4' := Aside0.mk e4
  have E5' := Aside0.mk e5
  have X3' := Aside0.mk x3
  have X4' := Aside0.mk x4
  have X6' := Aside0.mk x6
  have EY' := Aside0.mk ey
  have HR0 := Aside0.mk hr0
  have HS := Aside0.mk hS
  have HB0 := Aside0.mk (Below.refl w.heap.size w)
  clear hr0 hS ev x1 z0 z1 z2 z3 e1 e2 e3 e4 e5 x3 x4 x6 ey
  go_enter Try.func84, Try.ntmps84
  go_upto_if 27 with (first
    | ((with_reducible refine gate_dst (N := 2) rfl ?_); refine box_event ?hg (N := 2) ?hd (cs := #[.int .i64 0, .int .i64 0, .int .i64 0, .int .i64 0, .int .i64 0, .int .i64 0, .int .i64 0, .int .i64 0]) (t := 87) ?hr ?_; (case hd => rfl); (case hg => rfl); (case hr => first | (go_simp; done) | (go_simp; rfl)); intro g2 hg w1 hbox hb; have BR1 := Aside0.mk hbox; have HB1 := Aside0.mk (below_step HB0.out hb); have GR := Aside0.mk (show w.heap.size ≤ g2 by rw [hg]; exact Nat.le_refl _); clear hbox hb hg)
    | (go_at_call 97; (with_reducible refine (errors_New_any _ _).mono ?_); rintro e w2 ⟨T, x, rfl, hb⟩; have BR2 := Aside0.mk (blk_below BR1.out hb); have HB2 := Aside0.mk (below_step HB1.out hb); have hcv := Kd.C_string (P := Try.prog) (A := A0) (c := c0) Try.underlying25 Try.underlying5 Try.underlying9 (Kd.C_below HR0.out HB2.out); rw [← HS.out] at hcv; clear hb)
    | (go_at_call 98; (with_reducible refine (dig2_yes S _ X1'.out).mono ?_); rw [← EV'.out]; rintro e w3 ⟨rfl, ⟨n1, rfl⟩⟩; clear hcv))
  (try simp only [Act.put, List.setIfInBounds_toArray, List.set_cons_zero, List.set_cons_succ])
  go_cut [5] (fun v5 wc => v5 = .int .i64 Y ∧ wc = w2.drewN n1)
  case first =>
    by_cases hy : 2069 ≤ v + 2000
    · have ty : decide (2069 ≤ v + 2000) = true := decide_eq_true hy
      have HE := Aside0.mk (show Y = v + 1900 from by rw [EY'.out]; rw [if_pos hy])
      clear hy
      (first | rw [ty] | skip)
      go_wp2
      go_meet
      case rel => exact ⟨congrArg (Value.int .i64) (by rw [HE.out]; first | done | omega), rfl⟩
    · have ty : decide (2069 ≤ v + 2000) = false := decide_eq_false hy
      have HE := Aside0.mk (show Y = v + 2000 from by rw [EY'.out]; rw [if_neg hy])
      clear hy
      (first | rw [ty] | skip)
      go_wp2
      go_meet
      case rel => exact ⟨congrArg (Value.int .i64) (by rw [HE.out]; first | done | omega), rfl⟩
  case rest =>
    obtain ⟨rfl, rfl⟩ := hcut
    clear EY' bv
    go_wp2_with (first
      | (go_at_call 99; (with_reducible refine (zzDate_yes Y mo d h mi (dr2 S) _ Z0'.out Z1'.out Z2'.out Z3'.out E1'.out E2'.out E3'.out E4'.out).mono ?_); rw [X3'.out, ← E5'.out]; rintro e w3 ⟨rfl, hb⟩; have BR3 := Aside0.mk (blk_below (blk_drewN BR2.out n1) hb); have HB3 := Aside0.mk (below_step (pw_below_drewN HB2.out n1) hb); clear hb)
      | ((with_reducible refine gate_dst (N := 8) rfl ?_); refine box_event ?hg (N := 8) ?hd (cs := #[.int .i64 0, .int .i64 0, .int .i64 0, .int .i64 0, .int .i64 0, .int .i64 0, .int .i64 0, .int .i64 0]) (t := 87) ?hr ?_; (case hd => rfl); (case hg => rfl); (case hr => first | (go_simp; done) | (go_simp; rfl)); intro g8 hg w4 hbox hb; have BR4 := Aside0.mk (blk_below BR3.out hb); have HB4 := Aside0.mk (below_step HB3.out hb); have BT4 := Aside0.mk hbox; have GT := Aside0.mk (show w.heap.size ≤ g8 by rw [hg]; exact below_size HB3.out); have NE := Aside0.mk (show g2 ≠ g8 by rw [hg]; exact Nat.ne_of_lt (blk_lt BR3.out)); have ct0 := (blk_cell BT4.out 0).trans (show _ = some (.int .i64 0) from rfl); have ctf0 := blk_frozen BT4.out 0; have ct1 := (blk_cell BT4.out 1).trans (show _ = some (.int .i64 0) from rfl); have ctf1 := blk_frozen BT4.out 1; have ct2 := (blk_cell BT4.out 2).trans (show _ = some (.int .i64 0) from rfl); have ctf2 := blk_frozen BT4.out 2; have ct3 := (blk_cell BT4.out 3).trans (show _ = some (.int .i64 0) from rfl); have ctf3 := blk_frozen BT4.out 3; have ct4 := (blk_cell BT4.out 4).trans (show _ = some (.int .i64 0) from rfl); have ctf4 := blk_frozen BT4.out 4; have ct5 := (blk_cell BT4.out 5).trans (show _ = some (.int .i64 0) from rfl); have ctf5 := blk_frozen BT4.out 5; have ct6 := (blk_cell BT4.out 6).trans (show _ = some (.int .i64 0) from rfl); have ctf6 := blk_frozen BT4.out 6; have ct7 := (blk_cell BT4.out 7).trans (show _ = some (.int .i64 0) from rfl); have ctf7 := blk_frozen BT4.out 7; clear hbox hb hg)
      | ((with_reducible refine gate_store (t := 87) (p := 8) rfl ?_); refine store_event (t := 87) (p := 8) (v := ?vo8) (w1 := put8 (w4) g8 (.int .i64 Y) (.int .i64 mo) (.int .i64 d) (.int .i64 h) (.int .i64 mi) (.int .i64 0) (.int .i64 0) (.int .i64 0)) ?hg ?ho ?hn ?hr ?_; (case ho => rfl); (case hg => rfl); (case hn => rfl); (case hr => first | (go_simp; done) | (go_simp; rfl)); intro w5 hw; have BT5 := Aside0.mk (show w5.heap[g8]? = some (.cells #[.int .i64 Y, .int .i64 mo, .int .i64 d, .int .i64 h, .int .i64 mi, .int .i64 0, .int .i64 0, .int .i64 0] 87 (0, 0)) from by rw [hw]; exact put8_blk BT4.out (.int .i64 Y) (.int .i64 mo) (.int .i64 d) (.int .i64 h) (.int .i64 mi) (.int .i64 0) (.int .i64 0) (.int .i64 0)); have BR5 := Aside0.mk (show w5.heap[g2]? = some (.cells #[.int .i64 0, .int .i64 0, .int .i64 0, .int .i64 0, .int .i64 0, .int .i64 0, .int .i64 0, .int .i64 0] 87 (0, 0)) from by rw [hw]; exact blk_grown BR4.out (put8_grown w4 g8 (.int .i64 Y) (.int .i64 mo) (.int .i64 d) (.int .i64 h) (.int .i64 mi) (.int .i64 0) (.int .i64 0) (.int .i64 0)) (fun e => NE.out (by injection e))); have HB5 := Aside0.mk (show Below w.heap.size w w5 from by rw [hw]; exact HB4.out.grown (put8_grown w4 g8 (.int .i64 Y) (.int .i64 mo) (.int .i64 d) (.int .i64 h) (.int .i64 mi) (.int .i64 0) (.int .i64 0) (.int .i64 0)) (below_size HB4.out) (fun q hq => by cases hq; exact GT.out)); clear ct0 ctf0 ct1 ctf1 ct2 ctf2 ct3 ctf3 ct4 ctf4 ct5 ctf5 ct6 ctf6 ct7 ctf7; have ct0 := (blk_cell BT5.out 0).trans (show _ = some (.int .i64 Y) from rfl); have ctf0 := blk_frozen BT5.out 0; have ct1 := (blk_cell BT5.out 1).trans (show _ = some (.int .i64 mo) from rfl); have ctf1 := blk_frozen BT5.out 1; have ct2 := (blk_cell BT5.out 2).trans (show _ = some (.int .i64 d) from rfl); have ctf2 := blk_frozen BT5.out 2; have ct3 := (blk_cell BT5.out 3).trans (show _ = some (.int .i64 h) from rfl); have ctf3 := blk_frozen BT5.out 3; have ct4 := (blk_cell BT5.out 4).trans (show _ = some (.int .i64 mi) from rfl); have ctf4 := blk_frozen BT5.out 4; have ct5 := (blk_cell BT5.out 5).trans (show _ = some (.int .i64 0) from rfl); have ctf5 := blk_frozen BT5.out 5; have ct6 := (blk_cell BT5.out 6).trans (show _ = some (.int .i64 0) from rfl); have ctf6 := blk_frozen BT5.out 6; have ct7 := (blk_cell BT5.out 7).trans (show _ = some (.int .i64 0) from rfl); have ctf7 := blk_frozen BT5.out 7; have cr0 := (blk_cell BR5.out 0).trans (show _ = some (.int .i64 0) from rfl); have crf0 := blk_frozen BR5.out 0; have cr1 := (blk_cell BR5.out 1).trans (show _ = some (.int .i64 0) from rfl); have crf1 := blk_frozen BR5.out 1; have cr2 := (blk_cell BR5.out 2).trans (show _ = some (.int .i64 0) from rfl); have crf2 := blk_frozen BR5.out 2; have cr3 := (blk_cell BR5.out 3).trans (show _ = some (.int .i64 0) from rfl); have crf3 := blk_frozen BR5.out 3; have cr4 := (blk_cell BR5.out 4).trans (show _ = some (.int .i64 0) from rfl); have crf4 := blk_frozen BR5.out 4; have cr5 := (blk_cell BR5.out 5).trans (show _ = some (.int .i64 0) from rfl); have crf5 := blk_frozen BR5.out 5; have cr6 := (blk_cell BR5.out 6).trans (show _ = some (.int .i64 0) from rfl); have crf6 := blk_frozen BR5.out 6; have cr7 := (blk_cell BR5.out 7).trans (show _ = some (.int .i64 0) from rfl); have crf7 := blk_frozen BR5.out 7; clear hw)
      | (go_at_call 98; (with_reducible refine (dig2_no R4 _ X4'.out).mono ?_); rintro e wq ⟨rfl, ⟨n5, rfl⟩⟩)
      | (go_at_call 100; (with_reducible refine (zone2_any R4 _).mono ?_); rw [X6'.out]; rintro e wq ⟨rfl, ⟨n6, rfl⟩⟩)
      | ((with_reducible refine gate_store (t := 3) (p := 60) rfl ?_); refine store_event (t := 3) (p := 60) (v := ?vo60) (w1 := (w5.setCell ⟨g8, 7, none⟩ (.int .i64 (zV R4))).drewN (n5 + n6)) ?hg ?ho ?hn ?hr ?_; (case ho => rfl); (case hg => rfl); (case hn => rfl); (case hr => first | (go_simp; done) | (go_simp; rfl)); intro w7 hw; have BT7 := Aside0.mk (show w7.heap[g8]? = some (.cells #[.int .i64 Y, .int .i64 mo, .int .i64 d, .int .i64 h, .int .i64 mi, .int .i64 0, .int .i64 0, .int .i64 (zV R4)] 87 (0, 0)) from by rw [hw]; exact blk_drewN (blk_put (cs := #[.int .i64 Y, .int .i64 mo, .int .i64 d, .int .i64 h, .int .i64 mi, .int .i64 0, .int .i64 0, .int .i64 0]) BT5.out 7 _ rfl) _); have BR7 := Aside0.mk (show w7.heap[g2]? = some (.cells #[.int .i64 0, .int .i64 0, .int .i64 0, .int .i64 0, .int .i64 0, .int .i64 0, .int .i64 0, .int .i64 0] 87 (0, 0)) from by rw [hw]; exact blk_drewN (blk_far BR5.out NE.out _) _); have HB7 := Aside0.mk (show Below w.heap.size w w7 from by rw [hw]; exact pw_below_drewN (below_set HB5.out GT.out) _); clear ct0 ctf0 ct1 ctf1 ct2 ctf2 ct3 ctf3 ct4 ctf4 ct5 ctf5 ct6 ctf6 ct7 ctf7; have ct0 := (blk_cell BT7.out 0).trans (show _ = some (.int .i64 Y) from rfl); have ctf0 := blk_frozen BT7.out 0; have ct1 := (blk_cell BT7.out 1).trans (show _ = some (.int .i64 mo) from rfl); have ctf1 := blk_frozen BT7.out 1; have ct2 := (blk_cell BT7.out 2).trans (show _ = some (.int .i64 d) from rfl); have ctf2 := blk_frozen BT7.out 2; have ct3 := (blk_cell BT7.out 3).trans (show _ = some (.int .i64 h) from rfl); have ctf3 := blk_frozen BT7.out 3; have ct4 := (blk_cell BT7.out 4).trans (show _ = some (.int .i64 mi) from rfl); have ctf4 := blk_frozen BT7.out 4; have ct5 := (blk_cell BT7.out 5).trans (show _ = some (.int .i64 0) from rfl); have ctf5 := blk_frozen BT7.out 5; have ct6 := (blk_cell BT7.out 6).trans (show _ = some (.int .i64 0) from rfl); have ctf6 := blk_frozen BT7.out 6; have ct7 := (blk_cell BT7.out 7).trans (show _ = some (.int .i64 (zV R4)) from rfl); have ctf7 := blk_frozen BT7.out 7; clear cr0 crf0 cr1 crf1 cr2 crf2 cr3 crf3 cr4 crf4 cr5 crf5 cr6 crf6 cr7 crf7; have cr0 := (blk_cell BR7.out 0).trans (show _ = some (.int .i64 0) from rfl); have crf0 := blk_frozen BR7.out 0; have cr1 := (blk_cell BR7.out 1).trans (show _ = some (.int .i64 0) from rfl); have crf1 := blk_frozen BR7.out 1; have cr2 := (blk_cell BR7.out 2).trans (show _ = some (.int .i64 0) from rfl); have crf2 := blk_frozen BR7.out 2; have cr3 := (blk_cell BR7.out 3).trans (show _ = some (.int .i64 0) from rfl); have crf3 := blk_frozen BR7.out 3; have cr4 := (blk_cell BR7.out 4).trans (show _ = some (.int .i64 0) from rfl); have crf4 := blk_frozen BR7.out 4; have cr5 := (blk_cell BR7.out 5).trans (show _ = some (.int .i64 0) from rfl); have crf5 := blk_frozen BR7.out 5; have cr6 := (blk_cell BR7.out 6).trans (show _ = some (.int .i64 0) from rfl); have crf6 := blk_frozen BR7.out 6; have cr7 := (blk_cell BR7.out 7).trans (show _ = some (.int .i64 0) from rfl); have crf7 := blk_frozen BR7.out 7; clear hw)
      | ((with_reducible refine gate_store (t := 87) (p := 2) rfl ?_); refine store_event (t := 87) (p := 2) (v := ?vo2) (w1 := (put8 w7 g2 (.int .i64 0) (.int .i64 0) (.int .i64 0) (.int .i64 0) (.int .i64 0) (.int .i64 0) (.int .i64 0) (.int .i64 0))) ?hg ?ho ?hn ?hr ?_; (case ho => rfl); (case hg => rfl); (case hn => rfl); (case hr => first | (go_simp; done) | (go_simp; rfl)); intro w9 hw; have BX := Aside0.mk (show w9.heap[g2]? = some (.cells #[.int .i64 0, .int .i64 0, .int .i64 0, .int .i64 0, .int .i64 0, .int .i64 0, .int .i64 0, .int .i64 0] 87 (0, 0)) from by rw [hw]; exact put8_blk BR7.out (.int .i64 0) (.int .i64 0) (.int .i64 0) (.int .i64 0) (.int .i64 0) (.int .i64 0) (.int .i64 0) (.int .i64 0)); have HX := Aside0.mk (show Below w.heap.size w w9 from by rw [hw]; exact HB7.out.grown (put8_grown w7 g2 (.int .i64 0) (.int .i64 0) (.int .i64 0) (.int .i64 0) (.int .i64 0) (.int .i64 0) (.int .i64 0) (.int .i64 0)) (below_size HB7.out) (fun q hq => by cases hq; exact GR.out)); clear hw))
    refine bodyPost_ret (results_ct rfl _ _ g2 87 #[.int .i64 0, .int .i64 0, .int .i64 0, .int .i64 0, .int .i64 0, .int .i64 0, .int .i64 0, .int .i64 0] (0, 0) _ rfl BX.out Try.underlying87 rfl (by kernel_rfl)) rfl ?_
    exact ⟨T, x, rfl, HX.out⟩
set_option maxHeartbeats 8000000 in
set_option maxRecDepth 100000 in
theorem UTC_g1lo (A0 : Option Addr) (c0 : Nat) (l : List Int) (S : ByteArray) (v Y mo d h mi n a : Int) (R4 R5 : ByteArray) (w : World) (hr0 : Kd.C (Kd.int .u8) w A0 l.length l) (hS : S = strOfNums l) (ev : v = dv2 S) (x1 : dg2 S = true) (z0 : dg2 (dr2 S) = true) (z1 : dg2 (dr2 (dr2 S)) = true) (z2 : dg2 (dr2 (dr2 (dr2 S))) = true) (z3 : dg2 (dr2 (dr2 (dr2 (dr2 S)))) = true) (e1 : mo = dv2 (dr2 S)) (e2 : d = dv2 (dr2 (dr2 S))) (e3 : h = dv2 (dr2 (dr2 (dr2 S)))) (e4 : mi = dv2 (dr2 (dr2 (dr2 (dr2 S))))) (e5 : R4 = dr2 (dr2 (dr2 (dr2 (dr2 S))))) (x3 : dateB Y mo d h mi = true) (x4 : dg2 R4 = true) (e6 : n = dv2 R4) (x5 : n < 60) (e7 : R5 = dr2 R4) (x6 : zO R5 = true) (e8 : a = zV R5) (x7 : Y < 2050) (ey : Y = if 2069 ≤ v + 2000 then v + 1900 else v + 2000) :
    Calls Try.prog 84 #[.slice A0 l.length c0] w (PGood w Y mo d h mi n 0 a) := by
  have bv := dv2_range x1
  rw [← ev] at bv
  have bn := dv2_range x4
  rw [← e6] at bn
  have bY : 0 ≤ Y ∧ Y ≤ 3000 := by rw [ey]; split <;> omega
  have EV' := Aside0.mk ev
  have X1' := Aside0.mk x1
  have Z0' := Aside0.mk z0
  have Z1' := Aside0.mk z1
  have Z2' := Aside0.mk z2
  have Z3' := Aside0.mk z3
  have E1' := Aside0.mk e1
  have E2' := Aside0.mk e2
  have E3' := Aside0.mk e3
  have E4' := Aside0.mk e4
  have E5' := Aside0.mk e5
  have X3' := Aside0.mk x3
  have X4' := Aside0.mk x4
  have E6' := Aside0.mk e6
  have X5' := Aside0.mk x5
  have E7' := Aside0.mk e7
  have X6' := Aside0.mk x6
  have E8' := Aside0.mk e8
  have X7' := Aside0.mk x7
  have EY' := Aside0.mk ey
  have t60 : decide (60 ≤ n) = false := decide_eq_false (by omega)
  have t2050 : decide (2050 ≤ Y) = false := decide_eq_false (by omega)
  have HR0 := Aside0.mk hr0
  have HS := Aside0.mk hS
  have HB0 := Aside0.mk (Below.refl w.heap.size w)
  clear hr0 hS ev x1 z0 z1 z2 z3 e1 e2 e3 e4 e5 x3 x4 e6 x5 e7 x6 e8 x7 ey
  go_enter Try.func84, Try.ntmps84
  go_upto_if 27 with (first
    | ((with_reducible refine gate_dst (N := 2) rfl ?_); refine box_event ?hg (N := 2) ?hd (cs := #[.int .i64 0, .int .i64 0, .int .i64 0, .int .i64 0, .int .i64 0, .int .i64 0, .int .i64 0, .int .i64 0]) (t := 87) ?hr ?_; (case hd => rfl); (case hg => rfl); (case hr => first | (go_simp; done) | (go_simp; rfl)); intro g2 hg w1 hbox hb; have BR1 := Aside0.mk hbox; have HB1 := Aside0.mk (below_step HB0.out hb); have GR := Aside0.mk (show w.heap.size ≤ g2 by rw [hg]; exact Nat.le_refl _); clear hbox hb hg)
    | (go_at_call 97; (with_reducible refine (errors_New_any _ _).mono ?_); rintro e w2 ⟨T, x, rfl, hb⟩; have BR2 := Aside0.mk (blk_below BR1.out hb); have HB2 := Aside0.mk (below_step HB1.out hb); have hcv := Kd.C_string (P := Try.prog) (A := A0) (c := c0) Try.underlying25 Try.underlying5 Try.underlying9 (Kd.C_below HR0.out HB2.out); rw [← HS.out] at hcv; clear hb)
    | (go_at_call 98; (with_reducible refine (dig2_yes S _ X1'.out).mono ?_); rw [← EV'.out]; rintro e w3 ⟨rfl, ⟨n1, rfl⟩⟩; clear hcv))
  (try simp only [Act.put, List.setIfInBounds_toArray, List.set_cons_zero, List.set_cons_succ])
  go_cut [5] (fun v5 wc => v5 = .int .i64 Y ∧ wc = w2.drewN n1)
  case first =>
    by_cases hy : 2069 ≤ v + 2000
    · have ty : decide (2069 ≤ v + 2000) = true := decide_eq_true hy
      have HE := Aside0.mk (show Y = v + 1900 from by rw [EY'.out]; rw [if_pos hy])
      clear hy
      (first | rw [ty] | skip)
      go_wp2
      go_meet
      case rel => exact ⟨congrArg (Value.int .i64) (by rw [HE.out]; first | done | omega), rfl⟩
    · have ty : decide (2069 ≤ v + 2000) = false := decide_eq_false hy
      have HE := Aside0.mk (show Y = v + 2000 from by rw [EY'.out]; rw [if_neg hy])
      clear hy
      (first | rw [ty] | skip)
      go_wp2
      go_meet
      case rel => exact ⟨congrArg (Value.int .i64) (by rw [HE.out]; first | done | omega), rfl⟩
  case rest =>
    obtain ⟨rfl, rfl⟩ := hcut
    clear EY' bv
    go_wp2_with (first
      | (go_at_call 99; (with_reducible refine (zzDate_yes Y mo d h mi (dr2 S) _ Z0'.out Z1'.out Z2'.out Z3'.out E1'.out E2'.out E3'.out E4'.out).mono ?_); rw [X3'.out, ← E5'.out]; rintro e w3 ⟨rfl, hb⟩; have BR3 := Aside0.mk (blk_below (blk_drewN BR2.out n1) hb); have HB3 := Aside0.mk (below_step (pw_below_drewN HB2.out n1) hb); clear hb)
      | ((with_reducible refine gate_dst (N := 8) rfl ?_); refine box_event ?hg (N := 8) ?hd (cs := #[.int .i64 0, .int .i64 0, .int .i64 0, .int .i64 0, .int .i64 0, .int .i64 0, .int .i64 0, .int .i64 0]) (t := 87) ?hr ?_; (case hd => rfl); (case hg => rfl); (case hr => first | (go_simp; done) | (go_simp; rfl)); intro g8 hg w4 hbox hb; have BR4 := Aside0.mk (blk_below BR3.out hb); have HB4 := Aside0.mk (below_step HB3.out hb); have BT4 := Aside0.mk hbox; have GT := Aside0.mk (show w.heap.size ≤ g8 by rw [hg]; exact below_size HB3.out); have NE := Aside0.mk (show g2 ≠ g8 by rw [hg]; exact Nat.ne_of_lt (blk_lt BR3.out)); have ct0 := (blk_cell BT4.out 0).trans (show _ = some (.int .i64 0) from rfl); have ctf0 := blk_frozen BT4.out 0; have ct1 := (blk_cell BT4.out 1).trans (show _ = some (.int .i64 0) from rfl); have ctf1 := blk_frozen BT4.out 1; have ct2 := (blk_cell BT4.out 2).trans (show _ = some (.int .i64 0) from rfl); have ctf2 := blk_frozen BT4.out 2; have ct3 := (blk_cell BT4.out 3).trans (show _ = some (.int .i64 0) from rfl); have ctf3 := blk_frozen BT4.out 3; have ct4 := (blk_cell BT4.out 4).trans (show _ = some (.int .i64 0) from rfl); have ctf4 := blk_frozen BT4.out 4; have ct5 := (blk_cell BT4.out 5).trans (show _ = some (.int .i64 0) from rfl); have ctf5 := blk_frozen BT4.out 5; have ct6 := (blk_cell BT4.out 6).trans (show _ = some (.int .i64 0) from rfl); have ctf6 := blk_frozen BT4.out 6; have ct7 := (blk_cell BT4.out 7).trans (show _ = some (.int .i64 0) from rfl); have ctf7 := blk_frozen BT4.out 7; clear hbox hb hg)
      | ((with_reducible refine gate_store (t := 87) (p := 8) rfl ?_); refine store_event (t := 87) (p := 8) (v := ?vo8) (w1 := put8 (w4) g8 (.int .i64 Y) (.int .i64 mo) (.int .i64 d) (.int .i64 h) (.int .i64 mi) (.int .i64 0) (.int .i64 0) (.int .i64 0)) ?hg ?ho ?hn ?hr ?_; (case ho => rfl); (case hg => rfl); (case hn => rfl); (case hr => first | (go_simp; done) | (go_simp; rfl)); intro w5 hw; have BT5 := Aside0.mk (show w5.heap[g8]? = some (.cells #[.int .i64 Y, .int .i64 mo, .int .i64 d, .int .i64 h, .int .i64 mi, .int .i64 0, .int .i64 0, .int .i64 0] 87 (0, 0)) from by rw [hw]; exact put8_blk BT4.out (.int .i64 Y) (.int .i64 mo) (.int .i64 d) (.int .i64 h) (.int .i64 mi) (.int .i64 0) (.int .i64 0) (.int .i64 0)); have BR5 := Aside0.mk (show w5.heap[g2]? = some (.cells #[.int .i64 0, .int .i64 0, .int .i64 0, .int .i64 0, .int .i64 0, .int .i64 0, .int .i64 0, .int .i64 0] 87 (0, 0)) from by rw [hw]; exact blk_grown BR4.out (put8_grown w4 g8 (.int .i64 Y) (.int .i64 mo) (.int .i64 d) (.int .i64 h) (.int .i64 mi) (.int .i64 0) (.int .i64 0) (.int .i64 0)) (fun e => NE.out (by injection e))); have HB5 := Aside0.mk (show Below w.heap.size w w5 from by rw [hw]; exact HB4.out.grown (put8_grown w4 g8 (.int .i64 Y) (.int .i64 mo) (.int .i64 d) (.int .i64 h) (.int .i64 mi) (.int .i64 0) (.int .i64 0) (.int .i64 0)) (below_size HB4.out) (fun q hq => by cases hq; exact GT.out)); clear ct0 ctf0 ct1 ctf1 ct2 ctf2 ct3 ctf3 ct4 ctf4 ct5 ctf5 ct6 ctf6 ct7 ctf7; have ct0 := (blk_cell BT5.out 0).trans (show _ = some (.int .i64 Y) from rfl); have ctf0 := blk_frozen BT5.out 0; have ct1 := (blk_cell BT5.out 1).trans (show _ = some (.int .i64 mo) from rfl); have ctf1 := blk_frozen BT5.out 1; have ct2 := (blk_cell BT5.out 2).trans (show _ = some (.int .i64 d) from rfl); have ctf2 := blk_frozen BT5.out 2; have ct3 := (blk_cell BT5.out 3).trans (show _ = some (.int .i64 h) from rfl); have ctf3 := blk_frozen BT5.out 3; have ct4 := (blk_cell BT5.out 4).trans (show _ = some (.int .i64 mi) from rfl); have ctf4 := blk_frozen BT5.out 4; have ct5 := (blk_cell BT5.out 5).trans (show _ = some (.int .i64 0) from rfl); have ctf5 := blk_frozen BT5.out 5; have ct6 := (blk_cell BT5.out 6).trans (show _ = some (.int .i64 0) from rfl); have ctf6 := blk_frozen BT5.out 6; have ct7 := (blk_cell BT5.out 7).trans (show _ = some (.int .i64 0) from rfl); have ctf7 := blk_frozen BT5.out 7; have cr0 := (blk_cell BR5.out 0).trans (show _ = some (.int .i64 0) from rfl); have crf0 := blk_frozen BR5.out 0; have cr1 := (blk_cell BR5.out 1).trans (show _ = some (.int .i64 0) from rfl); have crf1 := blk_frozen BR5.out 1; have cr2 := (blk_cell BR5.out 2).trans (show _ = some (.int .i64 0) from rfl); have crf2 := blk_frozen BR5.out 2; have cr3 := (blk_cell BR5.out 3).trans (show _ = some (.int .i64 0) from rfl); have crf3 := blk_frozen BR5.out 3; have cr4 := (blk_cell BR5.out 4).trans (show _ = some (.int .i64 0) from rfl); have crf4 := blk_frozen BR5.out 4; have cr5 := (blk_cell BR5.out 5).trans (show _ = some (.int .i64 0) from rfl); have crf5 := blk_frozen BR5.out 5; have cr6 := (blk_cell BR5.out 6).trans (show _ = some (.int .i64 0) from rfl); have crf6 := blk_frozen BR5.out 6; have cr7 := (blk_cell BR5.out 7).trans (show _ = some (.int .i64 0) from rfl); have crf7 := blk_frozen BR5.out 7; clear hw)
      | (go_at_call 98; (with_reducible refine (dig2_yes R4 _ X4'.out).mono ?_); rw [← E6'.out, ← E7'.out]; rintro e wq ⟨rfl, ⟨n5, rfl⟩⟩)
      | ((with_reducible refine gate_store (t := 3) (p := 54) rfl ?_); refine store_event (t := 3) (p := 54) (v := ?vo54) (w1 := (w5.setCell ⟨g8, 5, none⟩ (.int .i64 n)).drewN n5) ?hg ?ho ?hn ?hr ?_; (case ho => rfl); (case hg => rfl); (case hn => rfl); (case hr => first | (go_simp; done) | (go_simp; rfl)); intro w6 hw; have BT6 := Aside0.mk (show w6.heap[g8]? = some (.cells #[.int .i64 Y, .int .i64 mo, .int .i64 d, .int .i64 h, .int .i64 mi, .int .i64 n, .int .i64 0, .int .i64 0] 87 (0, 0)) from by rw [hw]; exact blk_drewN (blk_put (cs := #[.int .i64 Y, .int .i64 mo, .int .i64 d, .int .i64 h, .int .i64 mi, .int .i64 0, .int .i64 0, .int .i64 0]) BT5.out 5 _ rfl) _); have BR6 := Aside0.mk (show w6.heap[g2]? = some (.cells #[.int .i64 0, .int .i64 0, .int .i64 0, .int .i64 0, .int .i64 0, .int .i64 0, .int .i64 0, .int .i64 0] 87 (0, 0)) from by rw [hw]; exact blk_drewN (blk_far BR5.out NE.out _) _); have HB6 := Aside0.mk (show Below w.heap.size w w6 from by rw [hw]; exact pw_below_drewN (below_set HB5.out GT.out) _); clear ct0 ctf0 ct1 ctf1 ct2 ctf2 ct3 ctf3 ct4 ctf4 ct5 ctf5 ct6 ctf6 ct7 ctf7; have ct0 := (blk_cell BT6.out 0).trans (show _ = some (.int .i64 Y) from rfl); have ctf0 := blk_frozen BT6.out 0; have ct1 := (blk_cell BT6.out 1).trans (show _ = some (.int .i64 mo) from rfl); have ctf1 := blk_frozen BT6.out 1; have ct2 := (blk_cell BT6.out 2).trans (show _ = some (.int .i64 d) from rfl); have ctf2 := blk_frozen BT6.out 2; have ct3 := (blk_cell BT6.out 3).trans (show _ = some (.int .i64 h) from rfl); have ctf3 := blk_frozen BT6.out 3; have ct4 := (blk_cell BT6.out 4).trans (show _ = some (.int .i64 mi) from rfl); have ctf4 := blk_frozen BT6.out 4; have ct5 := (blk_cell BT6.out 5).trans (show _ = some (.int .i64 n) from rfl); have ctf5 := blk_frozen BT6.out 5; have ct6 := (blk_cell BT6.out 6).trans (show _ = some (.int .i64 0) from rfl); have ctf6 := blk_frozen BT6.out 6; have ct7 := (blk_cell BT6.out 7).trans (show _ = some (.int .i64 0) from rfl); have ctf7 := blk_frozen BT6.out 7; clear cr0 crf0 cr1 crf1 cr2 crf2 cr3 crf3 cr4 crf4 cr5 crf5 cr6 crf6 cr7 crf7; have cr0 := (blk_cell BR6.out 0).trans (show _ = some (.int .i64 0) from rfl); have crf0 := blk_frozen BR6.out 0; have cr1 := (blk_cell BR6.out 1).trans (show _ = some (.int .i64 0) from rfl); have crf1 := blk_frozen BR6.out 1; have cr2 := (blk_cell BR6.out 2).trans (show _ = some (.int .i64 0) from rfl); have crf2 := blk_frozen BR6.out 2; have cr3 := (blk_cell BR6.out 3).trans (show _ = some (.int .i64 0) from rfl); have crf3 := blk_frozen BR6.out 3; have cr4 := (blk_cell BR6.out 4).trans (show _ = some (.int .i64 0) from rfl); have crf4 := blk_frozen BR6.out 4; have cr5 := (blk_cell BR6.out 5).trans (show _ = some (.int .i64 0) from rfl); have crf5 := blk_frozen BR6.out 5; have cr6 := (blk_cell BR6.out 6).trans (show _ = some (.int .i64 0) from rfl); have crf6 := blk_frozen BR6.out 6; have cr7 := (blk_cell BR6.out 7).trans (show _ = some (.int .i64 0) from rfl); have crf7 := blk_frozen BR6.out 7; clear hw)
      | (go_at_call 100; (with_reducible refine (zone2_any R5 _).mono ?_); rw [X6'.out, ← E8'.out]; rintro e wq ⟨rfl, ⟨n6, rfl⟩⟩)
      | ((with_reducible refine gate_store (t := 3) (p := 60) rfl ?_); refine store_event (t := 3) (p := 60) (v := ?vo60) (w1 := (w6.setCell ⟨g8, 7, none⟩ (.int .i64 a)).drewN n6) ?hg ?ho ?hn ?hr ?_; (case ho => rfl); (case hg => rfl); (case hn => rfl); (case hr => first | (go_simp; done) | (go_simp; rfl)); intro w7 hw; have BT7 := Aside0.mk (show w7.heap[g8]? = some (.cells #[.int .i64 Y, .int .i64 mo, .int .i64 d, .int .i64 h, .int .i64 mi, .int .i64 n, .int .i64 0, .int .i64 a] 87 (0, 0)) from by rw [hw]; exact blk_drewN (blk_put (cs := #[.int .i64 Y, .int .i64 mo, .int .i64 d, .int .i64 h, .int .i64 mi, .int .i64 n, .int .i64 0, .int .i64 0]) BT6.out 7 _ rfl) _); have BR7 := Aside0.mk (show w7.heap[g2]? = some (.cells #[.int .i64 0, .int .i64 0, .int .i64 0, .int .i64 0, .int .i64 0, .int .i64 0, .int .i64 0, .int .i64 0] 87 (0, 0)) from by rw [hw]; exact blk_drewN (blk_far BR6.out NE.out _) _); have HB7 := Aside0.mk (show Below w.heap.size w w7 from by rw [hw]; exact pw_below_drewN (below_set HB6.out GT.out) _); clear ct0 ctf0 ct1 ctf1 ct2 ctf2 ct3 ctf3 ct4 ctf4 ct5 ctf5 ct6 ctf6 ct7 ctf7; have ct0 := (blk_cell BT7.out 0).trans (show _ = some (.int .i64 Y) from rfl); have ctf0 := blk_frozen BT7.out 0; have ct1 := (blk_cell BT7.out 1).trans (show _ = some (.int .i64 mo) from rfl); have ctf1 := blk_frozen BT7.out 1; have ct2 := (blk_cell BT7.out 2).trans (show _ = some (.int .i64 d) from rfl); have ctf2 := blk_frozen BT7.out 2; have ct3 := (blk_cell BT7.out 3).trans (show _ = some (.int .i64 h) from rfl); have ctf3 := blk_frozen BT7.out 3; have ct4 := (blk_cell BT7.out 4).trans (show _ = some (.int .i64 mi) from rfl); have ctf4 := blk_frozen BT7.out 4; have ct5 := (blk_cell BT7.out 5).trans (show _ = some (.int .i64 n) from rfl); have ctf5 := blk_frozen BT7.out 5; have ct6 := (blk_cell BT7.out 6).trans (show _ = some (.int .i64 0) from rfl); have ctf6 := blk_frozen BT7.out 6; have ct7 := (blk_cell BT7.out 7).trans (show _ = some (.int .i64 a) from rfl); have ctf7 := blk_frozen BT7.out 7; clear cr0 crf0 cr1 crf1 cr2 crf2 cr3 crf3 cr4 crf4 cr5 crf5 cr6 crf6 cr7 crf7; have cr0 := (blk_cell BR7.out 0).trans (show _ = some (.int .i64 0) from rfl); have crf0 := blk_frozen BR7.out 0; have cr1 := (blk_cell BR7.out 1).trans (show _ = some (.int .i64 0) from rfl); have crf1 := blk_frozen BR7.out 1; have cr2 := (blk_cell BR7.out 2).trans (show _ = some (.int .i64 0) from rfl); have crf2 := blk_frozen BR7.out 2; have cr3 := (blk_cell BR7.out 3).trans (show _ = some (.int .i64 0) from rfl); have crf3 := blk_frozen BR7.out 3; have cr4 := (blk_cell BR7.out 4).trans (show _ = some (.int .i64 0) from rfl); have crf4 := blk_frozen BR7.out 4; have cr5 := (blk_cell BR7.out 5).trans (show _ = some (.int .i64 0) from rfl); have crf5 := blk_frozen BR7.out 5; have cr6 := (blk_cell BR7.out 6).trans (show _ = some (.int .i64 0) from rfl); have crf6 := blk_frozen BR7.out 6; have cr7 := (blk_cell BR7.out 7).trans (show _ = some (.int .i64 0) from rfl); have crf7 := blk_frozen BR7.out 7; clear hw)
      | ((with_reducible refine gate_store (t := 87) (p := 2) rfl ?_); refine store_event (t := 87) (p := 2) (v := ?vo2) (w1 := (put8 w7 g2 (.int .i64 Y) (.int .i64 mo) (.int .i64 d) (.int .i64 h) (.int .i64 mi) (.int .i64 n) (.int .i64 0) (.int .i64 a))) ?hg ?ho ?hn ?hr ?_; (case ho => rfl); (case hg => rfl); (case hn => rfl); (case hr => first | (go_simp; done) | (go_simp; rfl)); intro w9 hw; have BX := Aside0.mk (show w9.heap[g2]? = some (.cells #[.int .i64 Y, .int .i64 mo, .int .i64 d, .int .i64 h, .int .i64 mi, .int .i64 n, .int .i64 0, .int .i64 a] 87 (0, 0)) from by rw [hw]; exact put8_blk BR7.out (.int .i64 Y) (.int .i64 mo) (.int .i64 d) (.int .i64 h) (.int .i64 mi) (.int .i64 n) (.int .i64 0) (.int .i64 a)); have HX := Aside0.mk (show Below w.heap.size w w9 from by rw [hw]; exact HB7.out.grown (put8_grown w7 g2 (.int .i64 Y) (.int .i64 mo) (.int .i64 d) (.int .i64 h) (.int .i64 mi) (.int .i64 n) (.int .i64 0) (.int .i64 a)) (below_size HB7.out) (fun q hq => by cases hq; exact GR.out)); clear hw))
    refine bodyPost_ret (results_ct rfl _ _ g2 87 #[.int .i64 Y, .int .i64 mo, .int .i64 d, .int .i64 h, .int .i64 mi, .int .i64 n, .int .i64 0, .int .i64 a] (0, 0) _ rfl BX.out Try.underlying87 rfl (by kernel_rfl)) rfl ?_
    exact ⟨rfl, HX.out⟩
set_option maxHeartbeats 8000000 in
set_option maxRecDepth 100000 in
theorem UTC_g1hi (A0 : Option Addr) (c0 : Nat) (l : List Int) (S : ByteArray) (v Y mo d h mi n a : Int) (R4 R5 : ByteArray) (w : World) (hr0 : Kd.C (Kd.int .u8) w A0 l.length l) (hS : S = strOfNums l) (ev : v = dv2 S) (x1 : dg2 S = true) (z0 : dg2 (dr2 S) = true) (z1 : dg2 (dr2 (dr2 S)) = true) (z2 : dg2 (dr2 (dr2 (dr2 S))) = true) (z3 : dg2 (dr2 (dr2 (dr2 (dr2 S)))) = true) (e1 : mo = dv2 (dr2 S)) (e2 : d = dv2 (dr2 (dr2 S))) (e3 : h = dv2 (dr2 (dr2 (dr2 S)))) (e4 : mi = dv2 (dr2 (dr2 (dr2 (dr2 S))))) (e5 : R4 = dr2 (dr2 (dr2 (dr2 (dr2 S))))) (x3 : dateB Y mo d h mi = true) (x4 : dg2 R4 = true) (e6 : n = dv2 R4) (x5 : n < 60) (e7 : R5 = dr2 R4) (x6 : zO R5 = true) (e8 : a = zV R5) (x7 : 2050 ≤ Y) (ey : Y = if 2069 ≤ v + 2000 then v + 1900 else v + 2000) :
    Calls Try.prog 84 #[.slice A0 l.length c0] w (PGood w (Y - 100) mo d h mi n 0 a) := by
  have bv := dv2_range x1
  rw [← ev] at bv
  have bn := dv2_range x4
  rw [← e6] at bn
  have bY : 0 ≤ Y ∧ Y ≤ 3000 := by rw [ey]; split <;> omega
  have EV' := Aside0.mk ev
  have X1' := Aside0.mk x1
  have Z0' := Aside0.mk z0
  have Z1' := Aside0.mk z1
  have Z2' := Aside0.mk z2
  have Z3' := Aside0.mk z3
  have E1' := Aside0.mk e1
  have E2' := Aside0.mk e2
  have E3' := Aside0.mk e3
  have E4' := Aside0.mk e4
  have E5' := Aside0.mk e5
  have X3' := Aside0.mk x3
  have X4' := Aside0.mk x4
  have E6' := Aside0.mk e6
  have X5' := Aside0.mk x5
  have E7' := Aside0.mk e7
  have X6' := Aside0.mk x6
  have E8' := Aside0.mk e8
  have X7' := Aside0.mk x7
  have EY' := Aside0.mk ey
  have t60 : decide (60 ≤ n) = false := decide_eq_false (by omega)
  have t2050 : decide (2050 ≤ Y) = true := decide_eq_true (by omega)
  have HR0 := Aside0.mk hr0
  have HS := Aside0.mk hS
  have HB0 := Aside0.mk (Below.refl w.heap.size w)
  clear hr0 hS ev x1 z0 z1 z2 z3 e1 e2 e3 e4 e5 x3 x4 e6 x5 e7 x6 e8 x7 ey
  go_enter Try.func84, Try.ntmps84
  go_upto_if 27 with (first
    | ((with_reducible refine gate_dst (N := 2) rfl ?_); refine box_event ?hg (N := 2) ?hd (cs := #[.int .i64 0, .int .i64 0, .int .i64 0, .int .i64 0, .int .i64 0, .int .i64 0, .int .i64 0, .int .i64 0]) (t := 87) ?hr ?_; (case hd => rfl); (case hg => rfl); (case hr => first | (go_simp; done) | (go_simp; rfl)); intro g2 hg w1 hbox hb; have BR1 := Aside0.mk hbox; have HB1 := Aside0.mk (below_step HB0.out hb); have GR := Aside0.mk (show w.heap.size ≤ g2 by rw [hg]; exact Nat.le_refl _); clear hbox hb hg)
    | (go_at_call 97; (with_reducible refine (errors_New_any _ _).mono ?_); rintro e w2 ⟨T, x, rfl, hb⟩; have BR2 := Aside0.mk (blk_below BR1.out hb); have HB2 := Aside0.mk (below_step HB1.out hb); have hcv := Kd.C_string (P := Try.prog) (A := A0) (c := c0) Try.underlying25 Try.underlying5 Try.underlying9 (Kd.C_below HR0.out HB2.out); rw [← HS.out] at hcv; clear hb)
    | (go_at_call 98; (with_reducible refine (dig2_yes S _ X1'.out).mono ?_); rw [← EV'.out]; rintro e w3 ⟨rfl, ⟨n1, rfl⟩⟩; clear hcv))
  (try simp only [Act.put, List.setIfInBounds_toArray, List.set_cons_zero, List.set_cons_succ])
  go_cut [5] (fun v5 wc => v5 = .int .i64 Y ∧ wc = w2.drewN n1)
  case first =>
    by_cases hy : 2069 ≤ v + 2000
    · have ty : decide (2069 ≤ v + 2000) = true := decide_eq_true hy
      have HE := Aside0.mk (show Y = v + 1900 from by rw [EY'.out]; rw [if_pos hy])
      clear hy
      (first | rw [ty] | skip)
      go_wp2
      go_meet
      case rel => exact ⟨congrArg (Value.int .i64) (by rw [HE.out]; first | done | omega), rfl⟩
    · have ty : decide (2069 ≤ v + 2000) = false := decide_eq_false hy
      have HE := Aside0.mk (show Y = v + 2000 from by rw [EY'.out]; rw [if_neg hy])
      clear hy
      (first | rw [ty] | skip)
      go_wp2
      go_meet
      case rel => exact ⟨congrArg (Value.int .i64) (by rw [HE.out]; first | done | omega), rfl⟩
  case rest =>
    obtain ⟨rfl, rfl⟩ := hcut
    clear EY' bv
    go_wp2_with (first
      | (go_at_call 99; (with_reducible refine (zzDate_yes Y mo d h mi (dr2 S) _ Z0'.out Z1'.out Z2'.out Z3'.out E1'.out E2'.out E3'.out E4'.out).mono ?_); rw [X3'.out, ← E5'.out]; rintro e w3 ⟨rfl, hb⟩; have BR3 := Aside0.mk (blk_below (blk_drewN BR2.out n1) hb); have HB3 := Aside0.mk (below_step (pw_below_drewN HB2.out n1) hb); clear hb)
      | ((with_reducible refine gate_dst (N := 8) rfl ?_); refine box_event ?hg (N := 8) ?hd (cs := #[.int .i64 0, .int .i64 0, .int .i64 0, .int .i64 0, .int .i64 0, .int .i64 0, .int .i64 0, .int .i64 0]) (t := 87) ?hr ?_; (case hd => rfl); (case hg => rfl); (case hr => first | (go_simp; done) | (go_simp; rfl)); intro g8 hg w4 hbox hb; have BR4 := Aside0.mk (blk_below BR3.out hb); have HB4 := Aside0.mk (below_step HB3.out hb); have BT4 := Aside0.mk hbox; have GT := Aside0.mk (show w.heap.size ≤ g8 by rw [hg]; exact below_size HB3.out); have NE := Aside0.mk (show g2 ≠ g8 by rw [hg]; exact Nat.ne_of_lt (blk_lt BR3.out)); have ct0 := (blk_cell BT4.out 0).trans (show _ = some (.int .i64 0) from rfl); have ctf0 := blk_frozen BT4.out 0; have ct1 := (blk_cell BT4.out 1).trans (show _ = some (.int .i64 0) from rfl); have ctf1 := blk_frozen BT4.out 1; have ct2 := (blk_cell BT4.out 2).trans (show _ = some (.int .i64 0) from rfl); have ctf2 := blk_frozen BT4.out 2; have ct3 := (blk_cell BT4.out 3).trans (show _ = some (.int .i64 0) from rfl); have ctf3 := blk_frozen BT4.out 3; have ct4 := (blk_cell BT4.out 4).trans (show _ = some (.int .i64 0) from rfl); have ctf4 := blk_frozen BT4.out 4; have ct5 := (blk_cell BT4.out 5).trans (show _ = some (.int .i64 0) from rfl); have ctf5 := blk_frozen BT4.out 5; have ct6 := (blk_cell BT4.out 6).trans (show _ = some (.int .i64 0) from rfl); have ctf6 := blk_frozen BT4.out 6; have ct7 := (blk_cell BT4.out 7).trans (show _ = some (.int .i64 0) from rfl); have ctf7 := blk_frozen BT4.out 7; clear hbox hb hg)
      | ((with_reducible refine gate_store (t := 87) (p := 8) rfl ?_); refine store_event (t := 87) (p := 8) (v := ?vo8) (w1 := put8 (w4) g8 (.int .i64 Y) (.int .i64 mo) (.int .i64 d) (.int .i64 h) (.int .i64 mi) (.int .i64 0) (.int .i64 0) (.int .i64 0)) ?hg ?ho ?hn ?hr ?_; (case ho => rfl); (case hg => rfl); (case hn => rfl); (case hr => first | (go_simp; done) | (go_simp; rfl)); intro w5 hw; have BT5 := Aside0.mk (show w5.heap[g8]? = some (.cells #[.int .i64 Y, .int .i64 mo, .int .i64 d, .int .i64 h, .int .i64 mi, .int .i64 0, .int .i64 0, .int .i64 0] 87 (0, 0)) from by rw [hw]; exact put8_blk BT4.out (.int .i64 Y) (.int .i64 mo) (.int .i64 d) (.int .i64 h) (.int .i64 mi) (.int .i64 0) (.int .i64 0) (.int .i64 0)); have BR5 := Aside0.mk (show w5.heap[g2]? = some (.cells #[.int .i64 0, .int .i64 0, .int .i64 0, .int .i64 0, .int .i64 0, .int .i64 0, .int .i64 0, .int .i64 0] 87 (0, 0)) from by rw [hw]; exact blk_grown BR4.out (put8_grown w4 g8 (.int .i64 Y) (.int .i64 mo) (.int .i64 d) (.int .i64 h) (.int .i64 mi) (.int .i64 0) (.int .i64 0) (.int .i64 0)) (fun e => NE.out (by injection e))); have HB5 := Aside0.mk (show Below w.heap.size w w5 from by rw [hw]; exact HB4.out.grown (put8_grown w4 g8 (.int .i64 Y) (.int .i64 mo) (.int .i64 d) (.int .i64 h) (.int .i64 mi) (.int .i64 0) (.int .i64 0) (.int .i64 0)) (below_size HB4.out) (fun q hq => by cases hq; exact GT.out)); clear ct0 ctf0 ct1 ctf1 ct2 ctf2 ct3 ctf3 ct4 ctf4 ct5 ctf5 ct6 ctf6 ct7 ctf7; have ct0 := (blk_cell BT5.out 0).trans (show _ = some (.int .i64 Y) from rfl); have ctf0 := blk_frozen BT5.out 0; have ct1 := (blk_cell BT5.out 1).trans (show _ = some (.int .i64 mo) from rfl); have ctf1 := blk_frozen BT5.out 1; have ct2 := (blk_cell BT5.out 2).trans (show _ = some (.int .i64 d) from rfl); have ctf2 := blk_frozen BT5.out 2; have ct3 := (blk_cell BT5.out 3).trans (show _ = some (.int .i64 h) from rfl); have ctf3 := blk_frozen BT5.out 3; have ct4 := (blk_cell BT5.out 4).trans (show _ = some (.int .i64 mi) from rfl); have ctf4 := blk_frozen BT5.out 4; have ct5 := (blk_cell BT5.out 5).trans (show _ = some (.int .i64 0) from rfl); have ctf5 := blk_frozen BT5.out 5; have ct6 := (blk_cell BT5.out 6).trans (show _ = some (.int .i64 0) from rfl); have ctf6 := blk_frozen BT5.out 6; have ct7 := (blk_cell BT5.out 7).trans (show _ = some (.int .i64 0) from rfl); have ctf7 := blk_frozen BT5.out 7; have cr0 := (blk_cell BR5.out 0).trans (show _ = some (.int .i64 0) from rfl); have crf0 := blk_frozen BR5.out 0; have cr1 := (blk_cell BR5.out 1).trans (show _ = some (.int .i64 0) from rfl); have crf1 := blk_frozen BR5.out 1; have cr2 := (blk_cell BR5.out 2).trans (show _ = some (.int .i64 0) from rfl); have crf2 := blk_frozen BR5.out 2; have cr3 := (blk_cell BR5.out 3).trans (show _ = some (.int .i64 0) from rfl); have crf3 := blk_frozen BR5.out 3; have cr4 := (blk_cell BR5.out 4).trans (show _ = some (.int .i64 0) from rfl); have crf4 := blk_frozen BR5.out 4; have cr5 := (blk_cell BR5.out 5).trans (show _ = some (.int .i64 0) from rfl); have crf5 := blk_frozen BR5.out 5; have cr6 := (blk_cell BR5.out 6).trans (show _ = some (.int .i64 0) from rfl); have crf6 := blk_frozen BR5.out 6; have cr7 := (blk_cell BR5.out 7).trans (show _ = some (.int .i64 0) from rfl); have crf7 := blk_frozen BR5.out 7; clear hw)
      | (go_at_call 98; (with_reducible refine (dig2_yes R4 _ X4'.out).mono ?_); rw [← E6'.out, ← E7'.out]; rintro e wq ⟨rfl, ⟨n5, rfl⟩⟩)
      | ((with_reducible refine gate_store (t := 3) (p := 54) rfl ?_); refine store_event (t := 3) (p := 54) (v := ?vo54) (w1 := (w5.setCell ⟨g8, 5, none⟩ (.int .i64 n)).drewN n5) ?hg ?ho ?hn ?hr ?_; (case ho => rfl); (case hg => rfl); (case hn => rfl); (case hr => first | (go_simp; done) | (go_simp; rfl)); intro w6 hw; have BT6 := Aside0.mk (show w6.heap[g8]? = some (.cells #[.int .i64 Y, .int .i64 mo, .int .i64 d, .int .i64 h, .int .i64 mi, .int .i64 n, .int .i64 0, .int .i64 0] 87 (0, 0)) from by rw [hw]; exact blk_drewN (blk_put (cs := #[.int .i64 Y, .int .i64 mo, .int .i64 d, .int .i64 h, .int .i64 mi, .int .i64 0, .int .i64 0, .int .i64 0]) BT5.out 5 _ rfl) _); have BR6 := Aside0.mk (show w6.heap[g2]? = some (.cells #[.int .i64 0, .int .i64 0, .int .i64 0, .int .i64 0, .int .i64 0, .int .i64 0, .int .i64 0, .int .i64 0] 87 (0, 0)) from by rw [hw]; exact blk_drewN (blk_far BR5.out NE.out _) _); have HB6 := Aside0.mk (show Below w.heap.size w w6 from by rw [hw]; exact pw_below_drewN (below_set HB5.out GT.out) _); clear ct0 ctf0 ct1 ctf1 ct2 ctf2 ct3 ctf3 ct4 ctf4 ct5 ctf5 ct6 ctf6 ct7 ctf7; have ct0 := (blk_cell BT6.out 0).trans (show _ = some (.int .i64 Y) from rfl); have ctf0 := blk_frozen BT6.out 0; have ct1 := (blk_cell BT6.out 1).trans (show _ = some (.int .i64 mo) from rfl); have ctf1 := blk_frozen BT6.out 1; have ct2 := (blk_cell BT6.out 2).trans (show _ = some (.int .i64 d) from rfl); have ctf2 := blk_frozen BT6.out 2; have ct3 := (blk_cell BT6.out 3).trans (show _ = some (.int .i64 h) from rfl); have ctf3 := blk_frozen BT6.out 3; have ct4 := (blk_cell BT6.out 4).trans (show _ = some (.int .i64 mi) from rfl); have ctf4 := blk_frozen BT6.out 4; have ct5 := (blk_cell BT6.out 5).trans (show _ = some (.int .i64 n) from rfl); have ctf5 := blk_frozen BT6.out 5; have ct6 := (blk_cell BT6.out 6).trans (show _ = some (.int .i64 0) from rfl); have ctf6 := blk_frozen BT6.out 6; have ct7 := (blk_cell BT6.out 7).trans (show _ = some (.int .i64 0) from rfl); have ctf7 := blk_frozen BT6.out 7; clear cr0 crf0 cr1 crf1 cr2 crf2 cr3 crf3 cr4 crf4 cr5 crf5 cr6 crf6 cr7 crf7; have cr0 := (blk_cell BR6.out 0).trans (show _ = some (.int .i64 0) from rfl); have crf0 := blk_frozen BR6.out 0; have cr1 := (blk_cell BR6.out 1).trans (show _ = some (.int .i64 0) from rfl); have crf1 := blk_frozen BR6.out 1; have cr2 := (blk_cell BR6.out 2).trans (show _ = some (.int .i64 0) from rfl); have crf2 := blk_frozen BR6.out 2; have cr3 := (blk_cell BR6.out 3).trans (show _ = some (.int .i64 0) from rfl); have crf3 := blk_frozen BR6.out 3; have cr4 := (blk_cell BR6.out 4).trans (show _ = some (.int .i64 0) from rfl); have crf4 := blk_frozen BR6.out 4; have cr5 := (blk_cell BR6.out 5).trans (show _ = some (.int .i64 0) from rfl); have crf5 := blk_frozen BR6.out 5; have cr6 := (blk_cell BR6.out 6).trans (show _ = some (.int .i64 0) from rfl); have crf6 := blk_frozen BR6.out 6; have cr7 := (blk_cell BR6.out 7).trans (show _ = some (.int .i64 0) from rfl); have crf7 := blk_frozen BR6.out 7; clear hw)
      | (go_at_call 100; (with_reducible refine (zone2_any R5 _).mono ?_); rw [X6'.out, ← E8'.out]; rintro e wq ⟨rfl, ⟨n6, rfl⟩⟩)
      | ((with_reducible refine gate_store (t := 3) (p := 60) rfl ?_); refine store_event (t := 3) (p := 60) (v := ?vo60) (w1 := (w6.setCell ⟨g8, 7, none⟩ (.int .i64 a)).drewN n6) ?hg ?ho ?hn ?hr ?_; (case ho => rfl); (case hg => rfl); (case hn => rfl); (case hr => first | (go_simp; done) | (go_simp; rfl)); intro w7 hw; have BT7 := Aside0.mk (show w7.heap[g8]? = some (.cells #[.int .i64 Y, .int .i64 mo, .int .i64 d, .int .i64 h, .int .i64 mi, .int .i64 n, .int .i64 0, .int .i64 a] 87 (0, 0)) from by rw [hw]; exact blk_drewN (blk_put (cs := #[.int .i64 Y, .int .i64 mo, .int .i64 d, .int .i64 h, .int .i64 mi, .int .i64 n, .int .i64 0, .int .i64 0]) BT6.out 7 _ rfl) _); have BR7 := Aside0.mk (show w7.heap[g2]? = some (.cells #[.int .i64 0, .int .i64 0, .int .i64 0, .int .i64 0, .int .i64 0, .int .i64 0, .int .i64 0, .int .i64 0] 87 (0, 0)) from by rw [hw]; exact blk_drewN (blk_far BR6.out NE.out _) _); have HB7 := Aside0.mk (show Below w.heap.size w w7 from by rw [hw]; exact pw_below_drewN (below_set HB6.out GT.out) _); clear ct0 ctf0 ct1 ctf1 ct2 ctf2 ct3 ctf3 ct4 ctf4 ct5 ctf5 ct6 ctf6 ct7 ctf7; have ct0 := (blk_cell BT7.out 0).trans (show _ = some (.int .i64 Y) from rfl); have ctf0 := blk_frozen BT7.out 0; have ct1 := (blk_cell BT7.out 1).trans (show _ = some (.int .i64 mo) from rfl); have ctf1 := blk_frozen BT7.out 1; have ct2 := (blk_cell BT7.out 2).trans (show _ = some (.int .i64 d) from rfl); have ctf2 := blk_frozen BT7.out 2; have ct3 := (blk_cell BT7.out 3).trans (show _ = some (.int .i64 h) from rfl); have ctf3 := blk_frozen BT7.out 3; have ct4 := (blk_cell BT7.out 4).trans (show _ = some (.int .i64 mi) from rfl); have ctf4 := blk_frozen BT7.out 4; have ct5 := (blk_cell BT7.out 5).trans (show _ = some (.int .i64 n) from rfl); have ctf5 := blk_frozen BT7.out 5; have ct6 := (blk_cell BT7.out 6).trans (show _ = some (.int .i64 0) from rfl); have ctf6 := blk_frozen BT7.out 6; have ct7 := (blk_cell BT7.out 7).trans (show _ = some (.int .i64 a) from rfl); have ctf7 := blk_frozen BT7.out 7; clear cr0 crf0 cr1 crf1 cr2 crf2 cr3 crf3 cr4 crf4 cr5 crf5 cr6 crf6 cr7 crf7; have cr0 := (blk_cell BR7.out 0).trans (show _ = some (.int .i64 0) from rfl); have crf0 := blk_frozen BR7.out 0; have cr1 := (blk_cell BR7.out 1).trans (show _ = some (.int .i64 0) from rfl); have crf1 := blk_frozen BR7.out 1; have cr2 := (blk_cell BR7.out 2).trans (show _ = some (.int .i64 0) from rfl); have crf2 := blk_frozen BR7.out 2; have cr3 := (blk_cell BR7.out 3).trans (show _ = some (.int .i64 0) from rfl); have crf3 := blk_frozen BR7.out 3; have cr4 := (blk_cell BR7.out 4).trans (show _ = some (.int .i64 0) from rfl); have crf4 := blk_frozen BR7.out 4; have cr5 := (blk_cell BR7.out 5).trans (show _ = some (.int .i64 0) from rfl); have crf5 := blk_frozen BR7.out 5; have cr6 := (blk_cell BR7.out 6).trans (show _ = some (.int .i64 0) from rfl); have crf6 := blk_frozen BR7.out 6; have cr7 := (blk_cell BR7.out 7).trans (show _ = some (.int .i64 0) from rfl); have crf7 := blk_frozen BR7.out 7; clear hw)
      | ((with_reducible refine gate_store (t := 3) (p := 71) rfl ?_); refine store_event (t := 3) (p := 71) (v := ?vo71) (w1 := (w7).setCell ⟨g8, 0, none⟩ (.int .i64 (Y - 100))) ?hg ?ho ?hn ?hr ?_; (case ho => rfl); (case hg => rfl); (case hn => rfl); (case hr => first | (go_simp; done) | (go_simp; rfl)); intro w8 hw; have BT8 := Aside0.mk (show w8.heap[g8]? = some (.cells #[.int .i64 (Y - 100), .int .i64 mo, .int .i64 d, .int .i64 h, .int .i64 mi, .int .i64 n, .int .i64 0, .int .i64 a] 87 (0, 0)) from by rw [hw]; exact blk_put (cs := #[.int .i64 Y, .int .i64 mo, .int .i64 d, .int .i64 h, .int .i64 mi, .int .i64 n, .int .i64 0, .int .i64 a]) BT7.out 0 _ rfl); have BR8 := Aside0.mk (show w8.heap[g2]? = some (.cells #[.int .i64 0, .int .i64 0, .int .i64 0, .int .i64 0, .int .i64 0, .int .i64 0, .int .i64 0, .int .i64 0] 87 (0, 0)) from by rw [hw]; exact blk_far BR7.out NE.out _); have HB8 := Aside0.mk (show Below w.heap.size w w8 from by rw [hw]; exact below_set HB7.out GT.out); clear ct0 ctf0 ct1 ctf1 ct2 ctf2 ct3 ctf3 ct4 ctf4 ct5 ctf5 ct6 ctf6 ct7 ctf7; have ct0 := (blk_cell BT8.out 0).trans (show _ = some (.int .i64 (Y - 100)) from rfl); have ctf0 := blk_frozen BT8.out 0; have ct1 := (blk_cell BT8.out 1).trans (show _ = some (.int .i64 mo) from rfl); have ctf1 := blk_frozen BT8.out 1; have ct2 := (blk_cell BT8.out 2).trans (show _ = some (.int .i64 d) from rfl); have ctf2 := blk_frozen BT8.out 2; have ct3 := (blk_cell BT8.out 3).trans (show _ = some (.int .i64 h) from rfl); have ctf3 := blk_frozen BT8.out 3; have ct4 := (blk_cell BT8.out 4).trans (show _ = some (.int .i64 mi) from rfl); have ctf4 := blk_frozen BT8.out 4; have ct5 := (blk_cell BT8.out 5).trans (show _ = some (.int .i64 n) from rfl); have ctf5 := blk_frozen BT8.out 5; have ct6 := (blk_cell BT8.out 6).trans (show _ = some (.int .i64 0) from rfl); have ctf6 := blk_frozen BT8.out 6; have ct7 := (blk_cell BT8.out 7).trans (show _ = some (.int .i64 a) from rfl); have ctf7 := blk_frozen BT8.out 7; clear cr0 crf0 cr1 crf1 cr2 crf2 cr3 crf3 cr4 crf4 cr5 crf5 cr6 crf6 cr7 crf7; have cr0 := (blk_cell BR8.out 0).trans (show _ = some (.int .i64 0) from rfl); have crf0 := blk_frozen BR8.out 0; have cr1 := (blk_cell BR8.out 1).trans (show _ = some (.int .i64 0) from rfl); have crf1 := blk_frozen BR8.out 1; have cr2 := (blk_cell BR8.out 2).trans (show _ = some (.int .i64 0) from rfl); have crf2 := blk_frozen BR8.out 2; have cr3 := (blk_cell BR8.out 3).trans (show _ = some (.int .i64 0) from rfl); have crf3 := blk_frozen BR8.out 3; have cr4 := (blk_cell BR8.out 4).trans (show _ = some (.int .i64 0) from rfl); have crf4 := blk_frozen BR8.out 4; have cr5 := (blk_cell BR8.out 5).trans (show _ = some (.int .i64 0) from rfl); have crf5 := blk_frozen BR8.out 5; have cr6 := (blk_cell BR8.out 6).trans (show _ = some (.int .i64 0) from rfl); have crf6 := blk_frozen BR8.out 6; have cr7 := (blk_cell BR8.out 7).trans (show _ = some (.int .i64 0) from rfl); have crf7 := blk_frozen BR8.out 7; clear hw)
      | ((with_reducible refine gate_store (t := 87) (p := 2) rfl ?_); refine store_event (t := 87) (p := 2) (v := ?vo2) (w1 := (put8 w8 g2 (.int .i64 (Y - 100)) (.int .i64 mo) (.int .i64 d) (.int .i64 h) (.int .i64 mi) (.int .i64 n) (.int .i64 0) (.int .i64 a))) ?hg ?ho ?hn ?hr ?_; (case ho => rfl); (case hg => rfl); (case hn => rfl); (case hr => first | (go_simp; done) | (go_simp; rfl)); intro w9 hw; have BX := Aside0.mk (show w9.heap[g2]? = some (.cells #[.int .i64 (Y - 100), .int .i64 mo, .int .i64 d, .int .i64 h, .int .i64 mi, .int .i64 n, .int .i64 0, .int .i64 a] 87 (0, 0)) from by rw [hw]; exact put8_blk BR8.out (.int .i64 (Y - 100)) (.int .i64 mo) (.int .i64 d) (.int .i64 h) (.int .i64 mi) (.int .i64 n) (.int .i64 0) (.int .i64 a)); have HX := Aside0.mk (show Below w.heap.size w w9 from by rw [hw]; exact HB8.out.grown (put8_grown w8 g2 (.int .i64 (Y - 100)) (.int .i64 mo) (.int .i64 d) (.int .i64 h) (.int .i64 mi) (.int .i64 n) (.int .i64 0) (.int .i64 a)) (below_size HB8.out) (fun q hq => by cases hq; exact GR.out)); clear hw))
    refine bodyPost_ret (results_ct rfl _ _ g2 87 #[.int .i64 (Y - 100), .int .i64 mo, .int .i64 d, .int .i64 h, .int .i64 mi, .int .i64 n, .int .i64 0, .int .i64 a] (0, 0) _ rfl BX.out Try.underlying87 rfl (by kernel_rfl)) rfl ?_
    exact ⟨rfl, HX.out⟩
set_option maxHeartbeats 8000000 in
set_option maxRecDepth 100000 in
theorem UTC_g0lo (A0 : Option Addr) (c0 : Nat) (l : List Int) (S : ByteArray) (v Y mo d h mi n a : Int) (R4 R5 : ByteArray) (w : World) (hr0 : Kd.C (Kd.int .u8) w A0 l.length l) (hS : S = strOfNums l) (ev : v = dv2 S) (x1 : dg2 S = true) (z0 : dg2 (dr2 S) = true) (z1 : dg2 (dr2 (dr2 S)) = true) (z2 : dg2 (dr2 (dr2 (dr2 S))) = true) (z3 : dg2 (dr2 (dr2 (dr2 (dr2 S)))) = true) (e1 : mo = dv2 (dr2 S)) (e2 : d = dv2 (dr2 (dr2 S))) (e3 : h = dv2 (dr2 (dr2 (dr2 S)))) (e4 : mi = dv2 (dr2 (dr2 (dr2 (dr2 S))))) (e5 : R4 = dr2 (dr2 (dr2 (dr2 (dr2 S))))) (x3 : dateB Y mo d h mi = true) (x4 : dg2 R4 = false) (x6 : zO R4 = true) (e8 : a = zV R4) (x7 : Y < 2050) (ey : Y = if 2069 ≤ v + 2000 then v + 1900 else v + 2000) :
    Calls Try.prog 84 #[.slice A0 l.length c0] w (PGood w Y mo d h mi 0 0 a) := by
  have bv := dv2_range x1
  rw [← ev] at bv
  have bY : 0 ≤ Y ∧ Y ≤ 3000 := by rw [ey]; split <;> omega
  have EV' := Aside0.mk ev
  have X1' := Aside0.mk x1
  have Z0' := Aside0.mk z0
  have Z1' := Aside0.mk z1
  have Z2' := Aside0.mk z2
  have Z3' := Aside0.mk z3
  have E1' := Aside0.mk e1
  have E2' := Aside0.mk e2
  have E3' := Aside0.mk e3
  have E4' := Aside0.mk e4
  have E5' := Aside0.mk e5
  have X3' := Aside0.mk x3
  have X4' := Aside0.mk x4
  have X6' := Aside0.mk x6
  have E8' := Aside0.mk e8
  have X7' := Aside0.mk x7
  have EY' := Aside0.mk ey
  have t2050 : decide (2050 ≤ Y) = false := decide_eq_false (by omega)
  have HR0 := Aside0.mk hr0
  have HS := Aside0.mk hS
  have HB0 := Aside0.mk (Below.refl w.heap.size w)
  clear hr0 hS ev x1 z0 z1 z2 z3 e1 e2 e3 e4 e5 x3 x4 x6 e8 x7 ey
  go_enter Try.func84, Try.ntmps84
  go_upto_if 27 with (first
    | ((with_reducible refine gate_dst (N := 2) rfl ?_); refine box_event ?hg (N := 2) ?hd (cs := #[.int .i64 0, .int .i64 0, .int .i64 0, .int .i64 0, .int .i64 0, .int .i64 0, .int .i64 0, .int .i64 0]) (t := 87) ?hr ?_; (case hd => rfl); (case hg => rfl); (case hr => first | (go_simp; done) | (go_simp; rfl)); intro g2 hg w1 hbox hb; have BR1 := Aside0.mk hbox; have HB1 := Aside0.mk (below_step HB0.out hb); have GR := Aside0.mk (show w.heap.size ≤ g2 by rw [hg]; exact Nat.le_refl _); clear hbox hb hg)
    | (go_at_call 97; (with_reducible refine (errors_New_any _ _).mono ?_); rintro e w2 ⟨T, x, rfl, hb⟩; have BR2 := Aside0.mk (blk_below BR1.out hb); have HB2 := Aside0.mk (below_step HB1.out hb); have hcv := Kd.C_string (P := Try.prog) (A := A0) (c := c0) Try.underlying25 Try.underlying5 Try.underlying9 (Kd.C_below HR0.out HB2.out); rw [← HS.out] at hcv; clear hb)
    | (go_at_call 98; (with_reducible refine (dig2_yes S _ X1'.out).mono ?_); rw [← EV'.out]; rintro e w3 ⟨rfl, ⟨n1, rfl⟩⟩; clear hcv))
  (try simp only [Act.put, List.setIfInBounds_toArray, List.set_cons_zero, List.set_cons_succ])
  go_cut [5] (fun v5 wc => v5 = .int .i64 Y ∧ wc = w2.drewN n1)
  case first =>
    by_cases hy : 2069 ≤ v + 2000
    · have ty : decide (2069 ≤ v + 2000) = true := decide_eq_true hy
      have HE := Aside0.mk (show Y = v + 1900 from by rw [EY'.out]; rw [if_pos hy])
      clear hy
      (first | rw [ty] | skip)
      go_wp2
      go_meet
      case rel => exact ⟨congrArg (Value.int .i64) (by rw [HE.out]; first | done | omega), rfl⟩
    · have ty : decide (2069 ≤ v + 2000) = false := decide_eq_false hy
      have HE := Aside0.mk (show Y = v + 2000 from by rw [EY'.out]; rw [if_neg hy])
      clear hy
      (first | rw [ty] | skip)
      go_wp2
      go_meet
      case rel => exact ⟨congrArg (Value.int .i64) (by rw [HE.out]; first | done | omega), rfl⟩
  case rest =>
    obtain ⟨rfl, rfl⟩ := hcut
    clear EY' bv
    go_wp2_with (first
      | (go_at_call 99; (with_reducible refine (zzDate_yes Y mo d h mi (dr2 S) _ Z0'.out Z1'.out Z2'.out Z3'.out E1'.out E2'.out E3'.out E4'.out).mono ?_); rw [X3'.out, ← E5'.out]; rintro e w3 ⟨rfl, hb⟩; have BR3 := Aside0.mk (blk_below (blk_drewN BR2.out n1) hb); have HB3 := Aside0.mk (below_step (pw_below_drewN HB2.out n1) hb); clear hb)
      | ((with_reducible refine gate_dst (N := 8) rfl ?_); refine box_event ?hg (N := 8) ?hd (cs := #[.int .i64 0, .int .i64 0, .int .i64 0, .int .i64 0, .int .i64 0, .int .i64 0, .int .i64 0, .int .i64 0]) (t := 87) ?hr ?_; (case hd => rfl); (case hg => rfl); (case hr => first | (go_simp; done) | (go_simp; rfl)); intro g8 hg w4 hbox hb; have BR4 := Aside0.mk (blk_below BR3.out hb); have HB4 := Aside0.mk (below_step HB3.out hb); have BT4 := Aside0.mk hbox; have GT := Aside0.mk (show w.heap.size ≤ g8 by rw [hg]; exact below_size HB3.out); have NE := Aside0.mk (show g2 ≠ g8 by rw [hg]; exact Nat.ne_of_lt (blk_lt BR3.out)); have ct0 := (blk_cell BT4.out 0).trans (show _ = some (.int .i64 0) from rfl); have ctf0 := blk_frozen BT4.out 0; have ct1 := (blk_cell BT4.out 1).trans (show _ = some (.int .i64 0) from rfl); have ctf1 := blk_frozen BT4.out 1; have ct2 := (blk_cell BT4.out 2).trans (show _ = some (.int .i64 0) from rfl); have ctf2 := blk_frozen BT4.out 2; have ct3 := (blk_cell BT4.out 3).trans (show _ = some (.int .i64 0) from rfl); have ctf3 := blk_frozen BT4.out 3; have ct4 := (blk_cell BT4.out 4).trans (show _ = some (.int .i64 0) from rfl); have ctf4 := blk_frozen BT4.out 4; have ct5 := (blk_cell BT4.out 5).trans (show _ = some (.int .i64 0) from rfl); have ctf5 := blk_frozen BT4.out 5; have ct6 := (blk_cell BT4.out 6).trans (show _ = some (.int .i64 0) from rfl); have ctf6 := blk_frozen BT4.out 6; have ct7 := (blk_cell BT4.out 7).trans (show _ = some (.int .i64 0) from rfl); have ctf7 := blk_frozen BT4.out 7; clear hbox hb hg)
      | ((with_reducible refine gate_store (t := 87) (p := 8) rfl ?_); refine store_event (t := 87) (p := 8) (v := ?vo8) (w1 := put8 (w4) g8 (.int .i64 Y) (.int .i64 mo) (.int .i64 d) (.int .i64 h) (.int .i64 mi) (.int .i64 0) (.int .i64 0) (.int .i64 0)) ?hg ?ho ?hn ?hr ?_; (case ho => rfl); (case hg => rfl); (case hn => rfl); (case hr => first | (go_simp; done) | (go_simp; rfl)); intro w5 hw; have BT5 := Aside0.mk (show w5.heap[g8]? = some (.cells #[.int .i64 Y, .int .i64 mo, .int .i64 d, .int .i64 h, .int .i64 mi, .int .i64 0, .int .i64 0, .int .i64 0] 87 (0, 0)) from by rw [hw]; exact put8_blk BT4.out (.int .i64 Y) (.int .i64 mo) (.int .i64 d) (.int .i64 h) (.int .i64 mi) (.int .i64 0) (.int .i64 0) (.int .i64 0)); have BR5 := Aside0.mk (show w5.heap[g2]? = some (.cells #[.int .i64 0, .int .i64 0, .int .i64 0, .int .i64 0, .int .i64 0, .int .i64 0, .int .i64 0, .int .i64 0] 87 (0, 0)) from by rw [hw]; exact blk_grown BR4.out (put8_grown w4 g8 (.int .i64 Y) (.int .i64 mo) (.int .i64 d) (.int .i64 h) (.int .i64 mi) (.int .i64 0) (.int .i64 0) (.int .i64 0)) (fun e => NE.out (by injection e))); have HB5 := Aside0.mk (show Below w.heap.size w w5 from by rw [hw]; exact HB4.out.grown (put8_grown w4 g8 (.int .i64 Y) (.int .i64 mo) (.int .i64 d) (.int .i64 h) (.int .i64 mi) (.int .i64 0) (.int .i64 0) (.int .i64 0)) (below_size HB4.out) (fun q hq => by cases hq; exact GT.out)); clear ct0 ctf0 ct1 ctf1 ct2 ctf2 ct3 ctf3 ct4 ctf4 ct5 ctf5 ct6 ctf6 ct7 ctf7; have ct0 := (blk_cell BT5.out 0).trans (show _ = some (.int .i64 Y) from rfl); have ctf0 := blk_frozen BT5.out 0; have ct1 := (blk_cell BT5.out 1).trans (show _ = some (.int .i64 mo) from rfl); have ctf1 := blk_frozen BT5.out 1; have ct2 := (blk_cell BT5.out 2).trans (show _ = some (.int .i64 d) from rfl); have ctf2 := blk_frozen BT5.out 2; have ct3 := (blk_cell BT5.out 3).trans (show _ = some (.int .i64 h) from rfl); have ctf3 := blk_frozen BT5.out 3; have ct4 := (blk_cell BT5.out 4).trans (show _ = some (.int .i64 mi) from rfl); have ctf4 := blk_frozen BT5.out 4; have ct5 := (blk_cell BT5.out 5).trans (show _ = some (.int .i64 0) from rfl); have ctf5 := blk_frozen BT5.out 5; have ct6 := (blk_cell BT5.out 6).trans (show _ = some (.int .i64 0) from rfl); have ctf6 := blk_frozen BT5.out 6; have ct7 := (blk_cell BT5.out 7).trans (show _ = some (.int .i64 0) from rfl); have ctf7 := blk_frozen BT5.out 7; have cr0 := (blk_cell BR5.out 0).trans (show _ = some (.int .i64 0) from rfl); have crf0 := blk_frozen BR5.out 0; have cr1 := (blk_cell BR5.out 1).trans (show _ = some (.int .i64 0) from rfl); have crf1 := blk_frozen BR5.out 1; have cr2 := (blk_cell BR5.out 2).trans (show _ = some (.int .i64 0) from rfl); have crf2 := blk_frozen BR5.out 2; have cr3 := (blk_cell BR5.out 3).trans (show _ = some (.int .i64 0) from rfl); have crf3 := blk_frozen BR5.out 3; have cr4 := (blk_cell BR5.out 4).trans (show _ = some (.int .i64 0) from rfl); have crf4 := blk_frozen BR5.out 4; have cr5 := (blk_cell BR5.out 5).trans (show _ = some (.int .i64 0) from rfl); have crf5 := blk_frozen BR5.out 5; have cr6 := (blk_cell BR5.out 6).trans (show _ = some (.int .i64 0) from rfl); have crf6 := blk_frozen BR5.out 6; have cr7 := (blk_cell BR5.out 7).trans (show _ = some (.int .i64 0) from rfl); have crf7 := blk_frozen BR5.out 7; clear hw)
      | (go_at_call 98; (with_reducible refine (dig2_no R4 _ X4'.out).mono ?_); rintro e wq ⟨rfl, ⟨n5, rfl⟩⟩)
      | (go_at_call 100; (with_reducible refine (zone2_any R4 _).mono ?_); rw [X6'.out, ← E8'.out]; rintro e wq ⟨rfl, ⟨n6, rfl⟩⟩)
      | ((with_reducible refine gate_store (t := 3) (p := 60) rfl ?_); refine store_event (t := 3) (p := 60) (v := ?vo60) (w1 := (w5.setCell ⟨g8, 7, none⟩ (.int .i64 a)).drewN (n5 + n6)) ?hg ?ho ?hn ?hr ?_; (case ho => rfl); (case hg => rfl); (case hn => rfl); (case hr => first | (go_simp; done) | (go_simp; rfl)); intro w7 hw; have BT7 := Aside0.mk (show w7.heap[g8]? = some (.cells #[.int .i64 Y, .int .i64 mo, .int .i64 d, .int .i64 h, .int .i64 mi, .int .i64 0, .int .i64 0, .int .i64 a] 87 (0, 0)) from by rw [hw]; exact blk_drewN (blk_put (cs := #[.int .i64 Y, .int .i64 mo, .int .i64 d, .int .i64 h, .int .i64 mi, .int .i64 0, .int .i64 0, .int .i64 0]) BT5.out 7 _ rfl) _); have BR7 := Aside0.mk (show w7.heap[g2]? = some (.cells #[.int .i64 0, .int .i64 0, .int .i64 0, .int .i64 0, .int .i64 0, .int .i64 0, .int .i64 0, .int .i64 0] 87 (0, 0)) from by rw [hw]; exact blk_drewN (blk_far BR5.out NE.out _) _); have HB7 := Aside0.mk (show Below w.heap.size w w7 from by rw [hw]; exact pw_below_drewN (below_set HB5.out GT.out) _); clear ct0 ctf0 ct1 ctf1 ct2 ctf2 ct3 ctf3 ct4 ctf4 ct5 ctf5 ct6 ctf6 ct7 ctf7; have ct0 := (blk_cell BT7.out 0).trans (show _ = some (.int .i64 Y) from rfl); have ctf0 := blk_frozen BT7.out 0; have ct1 := (blk_cell BT7.out 1).trans (show _ = some (.int .i64 mo) from rfl); have ctf1 := blk_frozen BT7.out 1; have ct2 := (blk_cell BT7.out 2).trans (show _ = some (.int .i64 d) from rfl); have ctf2 := blk_frozen BT7.out 2; have ct3 := (blk_cell BT7.out 3).trans (show _ = some (.int .i64 h) from rfl); have ctf3 := blk_frozen BT7.out 3; have ct4 := (blk_cell BT7.out 4).trans (show _ = some (.int .i64 mi) from rfl); have ctf4 := blk_frozen BT7.out 4; have ct5 := (blk_cell BT7.out 5).trans (show _ = some (.int .i64 0) from rfl); have ctf5 := blk_frozen BT7.out 5; have ct6 := (blk_cell BT7.out 6).trans (show _ = some (.int .i64 0) from rfl); have ctf6 := blk_frozen BT7.out 6; have ct7 := (blk_cell BT7.out 7).trans (show _ = some (.int .i64 a) from rfl); have ctf7 := blk_frozen BT7.out 7; clear cr0 crf0 cr1 crf1 cr2 crf2 cr3 crf3 cr4 crf4 cr5 crf5 cr6 crf6 cr7 crf7; have cr0 := (blk_cell BR7.out 0).trans (show _ = some (.int .i64 0) from rfl); have crf0 := blk_frozen BR7.out 0; have cr1 := (blk_cell BR7.out 1).trans (show _ = some (.int .i64 0) from rfl); have crf1 := blk_frozen BR7.out 1; have cr2 := (blk_cell BR7.out 2).trans (show _ = some (.int .i64 0) from rfl); have crf2 := blk_frozen BR7.out 2; have cr3 := (blk_cell BR7.out 3).trans (show _ = some (.int .i64 0) from rfl); have crf3 := blk_frozen BR7.out 3; have cr4 := (blk_cell BR7.out 4).trans (show _ = some (.int .i64 0) from rfl); have crf4 := blk_frozen BR7.out 4; have cr5 := (blk_cell BR7.out 5).trans (show _ = some (.int .i64 0) from rfl); have crf5 := blk_frozen BR7.out 5; have cr6 := (blk_cell BR7.out 6).trans (show _ = some (.int .i64 0) from rfl); have crf6 := blk_frozen BR7.out 6; have cr7 := (blk_cell BR7.out 7).trans (show _ = some (.int .i64 0) from rfl); have crf7 := blk_frozen BR7.out 7; clear hw)
      | ((with_reducible refine gate_store (t := 87) (p := 2) rfl ?_); refine store_event (t := 87) (p := 2) (v := ?vo2) (w1 := (put8 w7 g2 (.int .i64 Y) (.int .i64 mo) (.int .i64 d) (.int .i64 h) (.int .i64 mi) (.int .i64 0) (.int .i64 0) (.int .i64 a))) ?hg ?ho ?hn ?hr ?_; (case ho => rfl); (case hg => rfl); (case hn => rfl); (case hr => first | (go_simp; done) | (go_simp; rfl)); intro w9 hw; have BX := Aside0.mk (show w9.heap[g2]? = some (.cells #[.int .i64 Y, .int .i64 mo, .int .i64 d, .int .i64 h, .int .i64 mi, .int .i64 0, .int .i64 0, .int .i64 a] 87 (0, 0)) from by rw [hw]; exact put8_blk BR7.out (.int .i64 Y) (.int .i64 mo) (.int .i64 d) (.int .i64 h) (.int .i64 mi) (.int .i64 0) (.int .i64 0) (.int .i64 a)); have HX := Aside0.mk (show Below w.heap.size w w9 from by rw [hw]; exact HB7.out.grown (put8_grown w7 g2 (.int .i64 Y) (.int .i64 mo) (.int .i64 d) (.int .i64 h) (.int .i64 mi) (.int .i64 0) (.int .i64 0) (.int .i64 a)) (below_size HB7.out) (fun q hq => by cases hq; exact GR.out)); clear hw))
    refine bodyPost_ret (results_ct rfl _ _ g2 87 #[.int .i64 Y, .int .i64 mo, .int .i64 d, .int .i64 h, .int .i64 mi, .int .i64 0, .int .i64 0, .int .i64 a] (0, 0) _ rfl BX.out Try.underlying87 rfl (by kernel_rfl)) rfl ?_
    exact ⟨rfl, HX.out⟩
set_option maxHeartbeats 8000000 in
set_option maxRecDepth 100000 in
theorem UTC_g0hi (A0 : Option Addr) (c0 : Nat) (l : List Int) (S : ByteArray) (v Y mo d h mi n a : Int) (R4 R5 : ByteArray) (w : World) (hr0 : Kd.C (Kd.int .u8) w A0 l.length l) (hS : S = strOfNums l) (ev : v = dv2 S) (x1 : dg2 S = true) (z0 : dg2 (dr2 S) = true) (z1 : dg2 (dr2 (dr2 S)) = true) (z2 : dg2 (dr2 (dr2 (dr2 S))) = true) (z3 : dg2 (dr2 (dr2 (dr2 (dr2 S)))) = true) (e1 : mo = dv2 (dr2 S)) (e2 : d = dv2 (dr2 (dr2 S))) (e3 : h = dv2 (dr2 (dr2 (dr2 S)))) (e4 : mi = dv2 (dr2 (dr2 (dr2 (dr2 S))))) (e5 : R4 = dr2 (dr2 (dr2 (dr2 (dr2 S))))) (x3 : dateB Y mo d h mi = true) (x4 : dg2 R4 = false) (x6 : zO R4 = true) (e8 : a = zV R4) (x7 : 2050 ≤ Y) (ey : Y = if 2069 ≤ v + 2000 then v + 1900 else v + 2000) :
    Calls Try.prog 84 #[.slice A0 l.length c0] w (PGood w (Y - 100) mo d h mi 0 0 a) := by
  have bv := dv2_range x1
  rw [← ev] at bv
  have bY : 0 ≤ Y ∧ Y ≤ 3000 := by rw [ey]; split <;> omega
  have EV' := Aside0.mk ev
  have X1' := Aside0.mk x1
  have Z0' := Aside0.mk z0
  have Z1' := Aside0.mk z1
  have Z2' := Aside0.mk z2
  have Z3' := Aside0.mk z3
  have E1' := Aside0.mk e1
  have E2' := Aside0.mk e2
  have E3' := Aside0.mk e3
  have E4' := Aside0.mk e4
  have E5' := Aside0.mk e5
  have X3' := Aside0.mk x3
  have X4' := Aside0.mk x4
  have X6' := Aside0.mk x6
  have E8' := Aside0.mk e8
  have X7' := Aside0.mk x7
  have EY' := Aside0.mk ey
  have t2050 : decide (2050 ≤ Y) = true := decide_eq_true (by omega)
  have HR0 := Aside0.mk hr0
  have HS := Aside0.mk hS
  have HB0 := Aside0.mk (Below.refl w.heap.size w)
  clear hr0 hS ev x1 z0 z1 z2 z3 e1 e2 e3 e4 e5 x3 x4 x6 e8 x7 ey
  go_enter Try.func84, Try.ntmps84
  go_upto_if 27 with (first
    | ((with_reducible refine gate_dst (N := 2) rfl ?_); refine box_event ?hg (N := 2) ?hd (cs := #[.int .i64 0, .int .i64 0, .int .i64 0, .int .i64 0, .int .i64 0, .int .i64 0, .int .i64 0, .int .i64 0]) (t := 87) ?hr ?_; (case hd => rfl); (case hg => rfl); (case hr => first | (go_simp; done) | (go_simp; rfl)); intro g2 hg w1 hbox hb; have BR1 := Aside0.mk hbox; have HB1 := Aside0.mk (below_step HB0.out hb); have GR := Aside0.mk (show w.heap.size ≤ g2 by rw [hg]; exact Nat.le_refl _); clear hbox hb hg)
    | (go_at_call 97; (with_reducible refine (errors_New_any _ _).mono ?_); rintro e w2 ⟨T, x, rfl, hb⟩; have BR2 := Aside0.mk (blk_below BR1.out hb); have HB2 := Aside0.mk (below_step HB1.out hb); have hcv := Kd.C_string (P := Try.prog) (A := A0) (c := c0) Try.underlying25 Try.underlying5 Try.underlying9 (Kd.C_below HR0.out HB2.out); rw [← HS.out] at hcv; clear hb)
    | (go_at_call 98; (with_reducible refine (dig2_yes S _ X1'.out).mono ?_); rw [← EV'.out]; rintro e w3 ⟨rfl, ⟨n1, rfl⟩⟩; clear hcv))
  (try simp only [Act.put, List.setIfInBounds_toArray, List.set_cons_zero, List.set_cons_succ])
  go_cut [5] (fun v5 wc => v5 = .int .i64 Y ∧ wc = w2.drewN n1)
  case first =>
    by_cases hy : 2069 ≤ v + 2000
    · have ty : decide (2069 ≤ v + 2000) = true := decide_eq_true hy
      have HE := Aside0.mk (show Y = v + 1900 from by rw [EY'.out]; rw [if_pos hy])
      clear hy
      (first | rw [ty] | skip)
      go_wp2
      go_meet
      case rel => exact ⟨congrArg (Value.int .i64) (by rw [HE.out]; first | done | omega), rfl⟩
    · have ty : decide (2069 ≤ v + 2000) = false := decide_eq_false hy
      have HE := Aside0.mk (show Y = v + 2000 from by rw [EY'.out]; rw [if_neg hy])
      clear hy
      (first | rw [ty] | skip)
      go_wp2
      go_meet
      case rel => exact ⟨congrArg (Value.int .i64) (by rw [HE.out]; first | done | omega), rfl⟩
  case rest =>
    obtain ⟨rfl, rfl⟩ := hcut
    clear EY' bv
    go_wp2_with (first
      | (go_at_call 99; (with_reducible refine (zzDate_yes Y mo d h mi (dr2 S) _ Z0'.out Z1'.out Z2'.out Z3'.out E1'.out E2'.out E3'.out E4'.out).mono ?_); rw [X3'.out, ← E5'.out]; rintro e w3 ⟨rfl, hb⟩; have BR3 := Aside0.mk (blk_below (blk_drewN BR2.out n1) hb); have HB3 := Aside0.mk (below_step (pw_below_drewN HB2.out n1) hb); clear hb)
      | ((with_reducible refine gate_dst (N := 8) rfl ?_); refine box_event ?hg (N := 8) ?hd (cs := #[.int .i64 0, .int .i64 0, .int .i64 0, .int .i64 0, .int .i64 0, .int .i64 0, .int .i64 0, .int .i64 0]) (t := 87) ?hr ?_; (case hd => rfl); (case hg => rfl); (case hr => first | (go_simp; done) | (go_simp; rfl)); intro g8 hg w4 hbox hb; have BR4 := Aside0.mk (blk_below BR3.out hb); have HB4 := Aside0.mk (below_step HB3.out hb); have BT4 := Aside0.mk hbox; have GT := Aside0.mk (show w.heap.size ≤ g8 by rw [hg]; exact below_size HB3.out); have NE := Aside0.mk (show g2 ≠ g8 by rw [hg]; exact Nat.ne_of_lt (blk_lt BR3.out)); have ct0 := (blk_cell BT4.out 0).trans (show _ = some (.int .i64 0) from rfl); have ctf0 := blk_frozen BT4.out 0; have ct1 := (blk_cell BT4.out 1).trans (show _ = some (.int .i64 0) from rfl); have ctf1 := blk_frozen BT4.out 1; have ct2 := (blk_cell BT4.out 2).trans (show _ = some (.int .i64 0) from rfl); have ctf2 := blk_frozen BT4.out 2; have ct3 := (blk_cell BT4.out 3).trans (show _ = some (.int .i64 0) from rfl); have ctf3 := blk_frozen BT4.out 3; have ct4 := (blk_cell BT4.out 4).trans (show _ = some (.int .i64 0) from rfl); have ctf4 := blk_frozen BT4.out 4; have ct5 := (blk_cell BT4.out 5).trans (show _ = some (.int .i64 0) from rfl); have ctf5 := blk_frozen BT4.out 5; have ct6 := (blk_cell BT4.out 6).trans (show _ = some (.int .i64 0) from rfl); have ctf6 := blk_frozen BT4.out 6; have ct7 := (blk_cell BT4.out 7).trans (show _ = some (.int .i64 0) from rfl); have ctf7 := blk_frozen BT4.out 7; clear hbox hb hg)
      | ((with_reducible refine gate_store (t := 87) (p := 8) rfl ?_); refine store_event (t := 87) (p := 8) (v := ?vo8) (w1 := put8 (w4) g8 (.int .i64 Y) (.int .i64 mo) (.int .i64 d) (.int .i64 h) (.int .i64 mi) (.int .i64 0) (.int .i64 0) (.int .i64 0)) ?hg ?ho ?hn ?hr ?_; (case ho => rfl); (case hg => rfl); (case hn => rfl); (case hr => first | (go_simp; done) | (go_simp; rfl)); intro w5 hw; have BT5 := Aside0.mk (show w5.heap[g8]? = some (.cells #[.int .i64 Y, .int .i64 mo, .int .i64 d, .int .i64 h, .int .i64 mi, .int .i64 0, .int .i64 0, .int .i64 0] 87 (0, 0)) from by rw [hw]; exact put8_blk BT4.out (.int .i64 Y) (.int .i64 mo) (.int .i64 d) (.int .i64 h) (.int .i64 mi) (.int .i64 0) (.int .i64 0) (.int .i64 0)); have BR5 := Aside0.mk (show w5.heap[g2]? = some (.cells #[.int .i64 0, .int .i64 0, .int .i64 0, .int .i64 0, .int .i64 0, .int .i64 0, .int .i64 0, .int .i64 0] 87 (0, 0)) from by rw [hw]; exact blk_grown BR4.out (put8_grown w4 g8 (.int .i64 Y) (.int .i64 mo) (.int .i64 d) (.int .i64 h) (.int .i64 mi) (.int .i64 0) (.int .i64 0) (.int .i64 0)) (fun e => NE.out (by injection e))); have HB5 := Aside0.mk (show Below w.heap.size w w5 from by rw [hw]; exact HB4.out.grown (put8_grown w4 g8 (.int .i64 Y) (.int .i64 mo) (.int .i64 d) (.int .i64 h) (.int .i64 mi) (.int .i64 0) (.int .i64 0) (.int .i64 0)) (below_size HB4.out) (fun q hq => by cases hq; exact GT.out)); clear ct0 ctf0 ct1 ctf1 ct2 ctf2 ct3 ctf3 ct4 ctf4 ct5 ctf5 ct6 ctf6 ct7 ctf7; have ct0 := (blk_cell BT5.out 0).trans (show _ = some (.int .i64 Y) from rfl); have ctf0 := blk_frozen BT5.out 0; have ct1 := (blk_cell BT5.out 1).trans (show _ = some (.int .i64 mo) from rfl); have ctf1 := blk_frozen BT5.out 1; have ct2 := (blk_cell BT5.out 2).trans (show _ = some (.int .i64 d) from rfl); have ctf2 := blk_frozen BT5.out 2; have ct3 := (blk_cell BT5.out 3).trans (show _ = some (.int .i64 h) from rfl); have ctf3 := blk_frozen BT5.out 3; have ct4 := (blk_cell BT5.out 4).trans (show _ = some (.int .i64 mi) from rfl); have ctf4 := blk_frozen BT5.out 4; have ct5 := (blk_cell BT5.out 5).trans (show _ = some (.int .i64 0) from rfl); have ctf5 := blk_frozen BT5.out 5; have ct6 := (blk_cell BT5.out 6).trans (show _ = some (.int .i64 0) from rfl); have ctf6 := blk_frozen BT5.out 6; have ct7 := (blk_cell BT5.out 7).trans (show _ = some (.int .i64 0) from rfl); have ctf7 := blk_frozen BT5.out 7; have cr0 := (blk_cell BR5.out 0).trans (show _ = some (.int .i64 0) from rfl); have crf0 := blk_frozen BR5.out 0; have cr1 := (blk_cell BR5.out 1).trans (show _ = some (.int .i64 0) from rfl); have crf1 := blk_frozen BR5.out 1; have cr2 := (blk_cell BR5.out 2).trans (show _ = some (.int .i64 0) from rfl); have crf2 := blk_frozen BR5.out 2; have cr3 := (blk_cell BR5.out 3).trans (show _ = some (.int .i64 0) from rfl); have crf3 := blk_frozen BR5.out 3; have cr4 := (blk_cell BR5.out 4).trans (show _ = some (.int .i64 0) from rfl); have crf4 := blk_frozen BR5.out 4; have cr5 := (blk_cell BR5.out 5).trans (show _ = some (.int .i64 0) from rfl); have crf5 := blk_frozen BR5.out 5; have cr6 := (blk_cell BR5.out 6).trans (show _ = some (.int .i64 0) from rfl); have crf6 := blk_frozen BR5.out 6; have cr7 := (blk_cell BR5.out 7).trans (show _ = some (.int .i64 0) from rfl); have crf7 := blk_frozen BR5.out 7; clear hw)
      | (go_at_call 98; (with_reducible refine (dig2_no R4 _ X4'.out).mono ?_); rintro e wq ⟨rfl, ⟨n5, rfl⟩⟩)
      | (go_at_call 100; (with_reducible refine (zone2_any R4 _).mono ?_); rw [X6'.out, ← E8'.out]; rintro e wq ⟨rfl, ⟨n6, rfl⟩⟩)
      | ((with_reducible refine gate_store (t := 3) (p := 60) rfl ?_); refine store_event (t := 3) (p := 60) (v := ?vo60) (w1 := (w5.setCell ⟨g8, 7, none⟩ (.int .i64 a)).drewN (n5 + n6)) ?hg ?ho ?hn ?hr ?_; (case ho => rfl); (case hg => rfl); (case hn => rfl); (case hr => first | (go_simp; done) | (go_simp; rfl)); intro w7 hw; have BT7 := Aside0.mk (show w7.heap[g8]? = some (.cells #[.int .i64 Y, .int .i64 mo, .int .i64 d, .int .i64 h, .int .i64 mi, .int .i64 0, .int .i64 0, .int .i64 a] 87 (0, 0)) from by rw [hw]; exact blk_drewN (blk_put (cs := #[.int .i64 Y, .int .i64 mo, .int .i64 d, .int .i64 h, .int .i64 mi, .int .i64 0, .int .i64 0, .int .i64 0]) BT5.out 7 _ rfl) _); have BR7 := Aside0.mk (show w7.heap[g2]? = some (.cells #[.int .i64 0, .int .i64 0, .int .i64 0, .int .i64 0, .int .i64 0, .int .i64 0, .int .i64 0, .int .i64 0] 87 (0, 0)) from by rw [hw]; exact blk_drewN (blk_far BR5.out NE.out _) _); have HB7 := Aside0.mk (show Below w.heap.size w w7 from by rw [hw]; exact pw_below_drewN (below_set HB5.out GT.out) _); clear ct0 ctf0 ct1 ctf1 ct2 ctf2 ct3 ctf3 ct4 ctf4 ct5 ctf5 ct6 ctf6 ct7 ctf7; have ct0 := (blk_cell BT7.out 0).trans (show _ = some (.int .i64 Y) from rfl); have ctf0 := blk_frozen BT7.out 0; have ct1 := (blk_cell BT7.out 1).trans (show _ = some (.int .i64 mo) from rfl); have ctf1 := blk_frozen BT7.out 1; have ct2 := (blk_cell BT7.out 2).trans (show _ = some (.int .i64 d) from rfl); have ctf2 := blk_frozen BT7.out 2; have ct3 := (blk_cell BT7.out 3).trans (show _ = some (.int .i64 h) from rfl); have ctf3 := blk_frozen BT7.out 3; have ct4 := (blk_cell BT7.out 4).trans (show _ = some (.int .i64 mi) from rfl); have ctf4 := blk_frozen BT7.out 4; have ct5 := (blk_cell BT7.out 5).trans (show _ = some (.int .i64 0) from rfl); have ctf5 := blk_frozen BT7.out 5; have ct6 := (blk_cell BT7.out 6).trans (show _ = some (.int .i64 0) from rfl); have ctf6 := blk_frozen BT7.out 6; have ct7 := (blk_cell BT7.out 7).trans (show _ = some (.int .i64 a) from rfl); have ctf7 := blk_frozen BT7.out 7; clear cr0 crf0 cr1 crf1 cr2 crf2 cr3 crf3 cr4 crf4 cr5 crf5 cr6 crf6 cr7 crf7; have cr0 := (blk_cell BR7.out 0).trans (show _ = some (.int .i64 0) from rfl); have crf0 := blk_frozen BR7.out 0; have cr1 := (blk_cell BR7.out 1).trans (show _ = some (.int .i64 0) from rfl); have crf1 := blk_frozen BR7.out 1; have cr2 := (blk_cell BR7.out 2).trans (show _ = some (.int .i64 0) from rfl); have crf2 := blk_frozen BR7.out 2; have cr3 := (blk_cell BR7.out 3).trans (show _ = some (.int .i64 0) from rfl); have crf3 := blk_frozen BR7.out 3; have cr4 := (blk_cell BR7.out 4).trans (show _ = some (.int .i64 0) from rfl); have crf4 := blk_frozen BR7.out 4; have cr5 := (blk_cell BR7.out 5).trans (show _ = some (.int .i64 0) from rfl); have crf5 := blk_frozen BR7.out 5; have cr6 := (blk_cell BR7.out 6).trans (show _ = some (.int .i64 0) from rfl); have crf6 := blk_frozen BR7.out 6; have cr7 := (blk_cell BR7.out 7).trans (show _ = some (.int .i64 0) from rfl); have crf7 := blk_frozen BR7.out 7; clear hw)
      | ((with_reducible refine gate_store (t := 3) (p := 71) rfl ?_); refine store_event (t := 3) (p := 71) (v := ?vo71) (w1 := (w7).setCell ⟨g8, 0, none⟩ (.int .i64 (Y - 100))) ?hg ?ho ?hn ?hr ?_; (case ho => rfl); (case hg => rfl); (case hn => rfl); (case hr => first | (go_simp; done) | (go_simp; rfl)); intro w8 hw; have BT8 := Aside0.mk (show w8.heap[g8]? = some (.cells #[.int .i64 (Y - 100), .int .i64 mo, .int .i64 d, .int .i64 h, .int .i64 mi, .int .i64 0, .int .i64 0, .int .i64 a] 87 (0, 0)) from by rw [hw]; exact blk_put (cs := #[.int .i64 Y, .int .i64 mo, .int .i64 d, .int .i64 h, .int .i64 mi, .int .i64 0, .int .i64 0, .int .i64 a]) BT7.out 0 _ rfl); have BR8 := Aside0.mk (show w8.heap[g2]? = some (.cells #[.int .i64 0, .int .i64 0, .int .i64 0, .int .i64 0, .int .i64 0, .int .i64 0, .int .i64 0, .int .i64 0] 87 (0, 0)) from by rw [hw]; exact blk_far BR7.out NE.out _); have HB8 := Aside0.mk (show Below w.heap.size w w8 from by rw [hw]; exact below_set HB7.out GT.out); clear ct0 ctf0 ct1 ctf1 ct2 ctf2 ct3 ctf3 ct4 ctf4 ct5 ctf5 ct6 ctf6 ct7 ctf7; have ct0 := (blk_cell BT8.out 0).trans (show _ = some (.int .i64 (Y - 100)) from rfl); have ctf0 := blk_frozen BT8.out 0; have ct1 := (blk_cell BT8.out 1).trans (show _ = some (.int .i64 mo) from rfl); have ctf1 := blk_frozen BT8.out 1; have ct2 := (blk_cell BT8.out 2).trans (show _ = some (.int .i64 d) from rfl); have ctf2 := blk_frozen BT8.out 2; have ct3 := (blk_cell BT8.out 3).trans (show _ = some (.int .i64 h) from rfl); have ctf3 := blk_frozen BT8.out 3; have ct4 := (blk_cell BT8.out 4).trans (show _ = some (.int .i64 mi) from rfl); have ctf4 := blk_frozen BT8.out 4; have ct5 := (blk_cell BT8.out 5).trans (show _ = some (.int .i64 0) from rfl); have ctf5 := blk_frozen BT8.out 5; have ct6 := (blk_cell BT8.out 6).trans (show _ = some (.int .i64 0) from rfl); have ctf6 := blk_frozen BT8.out 6; have ct7 := (blk_cell BT8.out 7).trans (show _ = some (.int .i64 a) from rfl); have ctf7 := blk_frozen BT8.out 7; clear cr0 crf0 cr1 crf1 cr2 crf2 cr3 crf3 cr4 crf4 cr5 crf5 cr6 crf6 cr7 crf7; have cr0 := (blk_cell BR8.out 0).trans (show _ = some (.int .i64 0) from rfl); have crf0 := blk_frozen BR8.out 0; have cr1 := (blk_cell BR8.out 1).trans (show _ = some (.int .i64 0) from rfl); have crf1 := blk_frozen BR8.out 1; have cr2 := (blk_cell BR8.out 2).trans (show _ = some (.int .i64 0) from rfl); have crf2 := blk_frozen BR8.out 2; have cr3 := (blk_cell BR8.out 3).trans (show _ = some (.int .i64 0) from rfl); have crf3 := blk_frozen BR8.out 3; have cr4 := (blk_cell BR8.out 4).trans (show _ = some (.int .i64 0) from rfl); have crf4 := blk_frozen BR8.out 4; have cr5 := (blk_cell BR8.out 5).trans (show _ = some (.int .i64 0) from rfl); have crf5 := blk_frozen BR8.out 5; have cr6 := (blk_cell BR8.out 6).trans (show _ = some (.int .i64 0) from rfl); have crf6 := blk_frozen BR8.out 6; have cr7 := (blk_cell BR8.out 7).trans (show _ = some (.int .i64 0) from rfl); have crf7 := blk_frozen BR8.out 7; clear hw)
      | ((with_reducible refine gate_store (t := 87) (p := 2) rfl ?_); refine store_event (t := 87) (p := 2) (v := ?vo2) (w1 := (put8 w8 g2 (.int .i64 (Y - 100)) (.int .i64 mo) (.int .i64 d) (.int .i64 h) (.int .i64 mi) (.int .i64 0) (.int .i64 0) (.int .i64 a))) ?hg ?ho ?hn ?hr ?_; (case ho => rfl); (case hg => rfl); (case hn => rfl); (case hr => first | (go_simp; done) | (go_simp; rfl)); intro w9 hw; have BX := Aside0.mk (show w9.heap[g2]? = some (.cells #[.int .i64 (Y - 100), .int .i64 mo, .int .i64 d, .int .i64 h, .int .i64 mi, .int .i64 0, .int .i64 0, .int .i64 a] 87 (0, 0)) from by rw [hw]; exact put8_blk BR8.out (.int .i64 (Y - 100)) (.int .i64 mo) (.int .i64 d) (.int .i64 h) (.int .i64 mi) (.int .i64 0) (.int .i64 0) (.int .i64 a)); have HX := Aside0.mk (show Below w.heap.size w w9 from by rw [hw]; exact HB8.out.grown (put8_grown w8 g2 (.int .i64 (Y - 100)) (.int .i64 mo) (.int .i64 d) (.int .i64 h) (.int .i64 mi) (.int .i64 0) (.int .i64 0) (.int .i64 a)) (below_size HB8.out) (fun q hq => by cases hq; exact GR.out)); clear hw))
    refine bodyPost_ret (results_ct rfl _ _ g2 87 #[.int .i64 (Y - 100), .int .i64 mo, .int .i64 d, .int .i64 h, .int .i64 mi, .int .i64 0, .int .i64 0, .int .i64 a] (0, 0) _ rfl BX.out Try.underlying87 rfl (by kernel_rfl)) rfl ?_
    exact ⟨rfl, HX.out⟩
def uY (S : ByteArray) : Int := if 2069 ≤ dv2 S + 2000 then dv2 S + 1900 else dv2 S + 2000
def uR4 (S : ByteArray) : ByteArray := dr2 (dr2 (dr2 (dr2 (dr2 S))))
def uD (S : ByteArray) : Bool := dg2 (dr2 S) && dg2 (dr2 (dr2 S)) && dg2 (dr2 (dr2 (dr2 S))) && dg2 (dr2 (dr2 (dr2 (dr2 S))))
def uSec (S : ByteArray) : Int := if dg2 (uR4 S) = true then dv2 (uR4 S) else 0
def uR (S : ByteArray) : ByteArray := if dg2 (uR4 S) = true then dr2 (uR4 S) else uR4 S
def uB (S : ByteArray) : Bool := dateB (uY S) (dv2 (dr2 S)) (dv2 (dr2 (dr2 S))) (dv2 (dr2 (dr2 (dr2 S)))) (dv2 (dr2 (dr2 (dr2 (dr2 S)))))
def uOk (S : ByteArray) : Bool := dg2 S && uD S && uB S && (!(dg2 (uR4 S)) || decide (dv2 (uR4 S) < 60)) && zO (uR S)
def uYear (S : ByteArray) : Int := if uY S < 2050 then uY S else uY S - 100
theorem uD_split {S : ByteArray} (h : uD S = true) : dg2 (dr2 S) = true ∧ dg2 (dr2 (dr2 S)) = true ∧ dg2 (dr2 (dr2 (dr2 S))) = true ∧ dg2 (dr2 (dr2 (dr2 (dr2 S)))) = true := by
  simp only [uD, Bool.and_eq_true] at h
  exact ⟨h.1.1.1, h.1.1.2, h.1.2, h.2⟩
theorem parseUTC_good (A0 : Option Addr) (c0 : Nat) (l : List Int) (w : World) (hr0 : Kd.C (Kd.int .u8) w A0 l.length l) (h : uOk (strOfNums l) = true) :
    Calls Try.prog 84 #[.slice A0 l.length c0] w (PGood w (uYear (strOfNums l)) (dv2 (dr2 (strOfNums l))) (dv2 (dr2 (dr2 (strOfNums l)))) (dv2 (dr2 (dr2 (dr2 (strOfNums l))))) (dv2 (dr2 (dr2 (dr2 (dr2 (strOfNums l)))))) (uSec (strOfNums l)) 0 (zV (uR (strOfNums l)))) := by
  generalize hS : strOfNums l = S at h ⊢
  simp only [uOk, Bool.and_eq_true] at h
  obtain ⟨⟨⟨⟨h1, hd⟩, h2⟩, h3⟩, h4⟩ := h
  obtain ⟨z0, z1, z2, z3⟩ := uD_split hd
  cases hs : dg2 (uR4 S) with
  | true =>
    have e1 : uSec S = dv2 (uR4 S) := if_pos hs
    have e2 : uR S = dr2 (uR4 S) := if_pos hs
    have h60 : dv2 (uR4 S) < 60 := by rw [hs] at h3; simpa using h3
    rw [e2] at h4
    rw [e1, e2]
    by_cases hy : uY S < 2050
    · rw [show uYear S = uY S from if_pos hy]
      exact UTC_g1lo A0 c0 l S (dv2 S) (uY S) _ _ _ _ _ _ (uR4 S) (dr2 (uR4 S)) w hr0 hS.symm rfl h1 z0 z1 z2 z3 rfl rfl rfl rfl rfl h2 hs rfl h60 rfl h4 rfl hy rfl
    · rw [show uYear S = uY S - 100 from if_neg hy]
      exact UTC_g1hi A0 c0 l S (dv2 S) (uY S) _ _ _ _ _ _ (uR4 S) (dr2 (uR4 S)) w hr0 hS.symm rfl h1 z0 z1 z2 z3 rfl rfl rfl rfl rfl h2 hs rfl h60 rfl h4 rfl (by omega) rfl
  | false =>
    have e1 : uSec S = 0 := if_neg (by rw [hs]; decide)
    have e2 : uR S = uR4 S := if_neg (by rw [hs]; decide)
    rw [e2] at h4
    rw [e1, e2]
    by_cases hy : uY S < 2050
    · rw [show uYear S = uY S from if_pos hy]
      exact UTC_g0lo A0 c0 l S (dv2 S) (uY S) _ _ _ _ 0 _ (uR4 S) (uR4 S) w hr0 hS.symm rfl h1 z0 z1 z2 z3 rfl rfl rfl rfl rfl h2 hs h4 rfl hy rfl
    · rw [show uYear S = uY S - 100 from if_neg hy]
      exact UTC_g0hi A0 c0 l S (dv2 S) (uY S) _ _ _ _ 0 _ (uR4 S) (uR4 S) w hr0 hS.symm rfl h1 z0 z1 z2 z3 rfl rfl rfl rfl rfl h2 hs h4 rfl (by omega) rfl
theorem parseUTC_bad (A0 : Option Addr) (c0 : Nat) (l : List Int) (w : World) (hr0 : Kd.C (Kd.int .u8) w A0 l.length l) (h : uOk (strOfNums l) = false) :
    Calls Try.prog 84 #[.slice A0 l.length c0] w (PBad w) := by
  generalize hS : strOfNums l = S at h
  cases h1 : dg2 S with
  | false => exact UTC_d1 A0 c0 l S 0 0 0 0 0 0 0 0 S S w hr0 hS.symm h1
  | true =>
    cases hd : uD S with
    | false => exact UTC_dd A0 c0 l S (dv2 S) (uY S) 0 0 0 0 0 0 S S w hr0 hS.symm rfl h1 hd rfl
    | true =>
      obtain ⟨z0, z1, z2, z3⟩ := uD_split hd
      cases h2 : uB S with
      | false => exact UTC_db A0 c0 l S (dv2 S) (uY S) _ _ _ _ 0 0 (uR4 S) S w hr0 hS.symm rfl h1 z0 z1 z2 z3 rfl rfl rfl rfl rfl h2 rfl
      | true =>
        cases hs : dg2 (uR4 S) with
        | true =>
          have e2 : uR S = dr2 (uR4 S) := if_pos hs
          by_cases h60 : dv2 (uR4 S) < 60
          · have h4 : zO (dr2 (uR4 S)) = false := by
              simp only [uOk, h1, hd, h2, hs, e2, decide_eq_true h60, Bool.true_and, Bool.not_true, Bool.false_or] at h
              exact h
            exact UTC_z1 A0 c0 l S (dv2 S) (uY S) _ _ _ _ _ 0 (uR4 S) (dr2 (uR4 S)) w hr0 hS.symm rfl h1 z0 z1 z2 z3 rfl rfl rfl rfl rfl h2 hs rfl h60 rfl h4 rfl
          · exact UTC_s60 A0 c0 l S (dv2 S) (uY S) _ _ _ _ _ 0 (uR4 S) S w hr0 hS.symm rfl h1 z0 z1 z2 z3 rfl rfl rfl rfl rfl h2 hs rfl (by omega) rfl
        | false =>
          have e2 : uR S = uR4 S := if_neg (by rw [hs]; decide)
          have h4 : zO (uR4 S) = false := by
            simp only [uOk, h1, hd, h2, hs, e2, Bool.true_and, Bool.not_false, Bool.true_or] at h
            exact h
          exact UTC_z0 A0 c0 l S (dv2 S) (uY S) _ _ _ _ 0 0 (uR4 S) S w hr0 hS.symm rfl h1 z0 z1 z2 z3 rfl rfl rfl rfl rfl h2 hs h4 rfl
end

section
open Go.BigFrame
set_option linter.unusedSimpArgs false
set_option maxHeartbeats 8000000 in
set_option maxRecDepth 100000 in
theorem ZZUTC_good (A0 : Option Addr) (c0 : Nat) (l : List Int) (y mo d h mi s na a : Int) (w : World) (hp : ∀ W, Below w.heap.size w W → Calls Try.prog 84 #[.slice A0 l.length c0] W (PGood W y mo d h mi s na a)) : Calls Try.prog 55 #[.slice A0 l.length c0] w (PGood w y mo d h mi s na a) := by
  have HP := Aside0.mk hp
  have HB0 := Aside0.mk (Below.refl w.heap.size w)
  clear hp
  go_enter Try.func55, Try.ntmps55
  go_wp2_with (first
    | ((with_reducible refine gate_dst (N := 2) rfl ?_); refine box_event ?hg (N := 2) ?hd (cs := #[.int .i64 0, .int .i64 0, .int .i64 0, .int .i64 0, .int .i64 0, .int .i64 0, .int .i64 0, .int .i64 0]) (t := 87) ?hr ?_; (case hd => rfl); (case hg => rfl); (case hr => first | (go_simp; done) | (go_simp; rfl)); intro g2 hg w1 hbox hb; have BR1 := Aside0.mk hbox; have HB1 := Aside0.mk (below_step HB0.out hb); have GR := Aside0.mk (show w.heap.size ≤ g2 by rw [hg]; exact Nat.le_refl _); clear hbox hb hg)
    | (go_at_call 84; (with_reducible refine (HP.out w1 HB1.out).mono ?_); rintro e w2 ⟨rfl, hb⟩; have BR2 := Aside0.mk (blk_below BR1.out hb); have HB2 := Aside0.mk (below_step HB1.out hb); clear hb; have cr0 := (blk_cell BR2.out 0).trans (show _ = some (.int .i64 0) from rfl); have crf0 := blk_frozen BR2.out 0; have cr1 := (blk_cell BR2.out 1).trans (show _ = some (.int .i64 0) from rfl); have crf1 := blk_frozen BR2.out 1; have cr2 := (blk_cell BR2.out 2).trans (show _ = some (.int .i64 0) from rfl); have crf2 := blk_frozen BR2.out 2; have cr3 := (blk_cell BR2.out 3).trans (show _ = some (.int .i64 0) from rfl); have crf3 := blk_frozen BR2.out 3; have cr4 := (blk_cell BR2.out 4).trans (show _ = some (.int .i64 0) from rfl); have crf4 := blk_frozen BR2.out 4; have cr5 := (blk_cell BR2.out 5).trans (show _ = some (.int .i64 0) from rfl); have crf5 := blk_frozen BR2.out 5; have cr6 := (blk_cell BR2.out 6).trans (show _ = some (.int .i64 0) from rfl); have crf6 := blk_frozen BR2.out 6; have cr7 := (blk_cell BR2.out 7).trans (show _ = some (.int .i64 0) from rfl); have crf7 := blk_frozen BR2.out 7)
    | ((with_reducible refine gate_store (t := 87) (p := 2) rfl ?_); refine store_event (t := 87) (p := 2) (v := ?vo2) (w1 := put8 w2 g2 (.int .i64 y) (.int .i64 mo) (.int .i64 d) (.int .i64 h) (.int .i64 mi) (.int .i64 s) (.int .i64 na) (.int .i64 a)) ?hg ?ho ?hn ?hr ?_; (case ho => rfl); (case hg => rfl); (case hn => rfl); (case hr => first | (go_simp; done) | (go_simp; rfl)); intro w9 hw; have BX := Aside0.mk (show w9.heap[g2]? = some (.cells #[.int .i64 y, .int .i64 mo, .int .i64 d, .int .i64 h, .int .i64 mi, .int .i64 s, .int .i64 na, .int .i64 a] 87 (0, 0)) from by rw [hw]; exact put8_blk BR2.out (.int .i64 y) (.int .i64 mo) (.int .i64 d) (.int .i64 h) (.int .i64 mi) (.int .i64 s) (.int .i64 na) (.int .i64 a)); have HX := Aside0.mk (show Below w.heap.size w w9 from by rw [hw]; exact HB2.out.grown (put8_grown w2 g2 (.int .i64 y) (.int .i64 mo) (.int .i64 d) (.int .i64 h) (.int .i64 mi) (.int .i64 s) (.int .i64 na) (.int .i64 a)) (below_size HB2.out) (fun q hq => by cases hq; exact GR.out)); clear hw))
  refine bodyPost_ret (results_ct rfl _ _ g2 87 #[.int .i64 y, .int .i64 mo, .int .i64 d, .int .i64 h, .int .i64 mi, .int .i64 s, .int .i64 na, .int .i64 a] (0, 0) _ rfl BX.out Try.underlying87 rfl (by kernel_rfl)) rfl ?_
  exact ⟨rfl, HX.out⟩
set_option maxHeartbeats 8000000 in
set_option maxRecDepth 100000 in
theorem ZZUTC_bad (A0 : Option Addr) (c0 : Nat) (l : List Int) (y mo d h mi s na a : Int) (w : World) (hp : ∀ W, Below w.heap.size w W → Calls Try.prog 84 #[.slice A0 l.length c0] W (PBad W)) : Calls Try.prog 55 #[.slice A0 l.length c0] w (PBad w) := by
  have HP := Aside0.mk hp
  have HB0 := Aside0.mk (Below.refl w.heap.size w)
  clear hp
  go_enter Try.func55, Try.ntmps55
  go_wp2_with (first
    | ((with_reducible refine gate_dst (N := 2) rfl ?_); refine box_event ?hg (N := 2) ?hd (cs := #[.int .i64 0, .int .i64 0, .int .i64 0, .int .i64 0, .int .i64 0, .int .i64 0, .int .i64 0, .int .i64 0]) (t := 87) ?hr ?_; (case hd => rfl); (case hg => rfl); (case hr => first | (go_simp; done) | (go_simp; rfl)); intro g2 hg w1 hbox hb; have BR1 := Aside0.mk hbox; have HB1 := Aside0.mk (below_step HB0.out hb); have GR := Aside0.mk (show w.heap.size ≤ g2 by rw [hg]; exact Nat.le_refl _); clear hbox hb hg)
    | (go_at_call 84; (with_reducible refine (HP.out w1 HB1.out).mono ?_); rintro e w2 ⟨T, x, rfl, hb⟩; have BR2 := Aside0.mk (blk_below BR1.out hb); have HB2 := Aside0.mk (below_step HB1.out hb); clear hb; have cr0 := (blk_cell BR2.out 0).trans (show _ = some (.int .i64 0) from rfl); have crf0 := blk_frozen BR2.out 0; have cr1 := (blk_cell BR2.out 1).trans (show _ = some (.int .i64 0) from rfl); have crf1 := blk_frozen BR2.out 1; have cr2 := (blk_cell BR2.out 2).trans (show _ = some (.int .i64 0) from rfl); have crf2 := blk_frozen BR2.out 2; have cr3 := (blk_cell BR2.out 3).trans (show _ = some (.int .i64 0) from rfl); have crf3 := blk_frozen BR2.out 3; have cr4 := (blk_cell BR2.out 4).trans (show _ = some (.int .i64 0) from rfl); have crf4 := blk_frozen BR2.out 4; have cr5 := (blk_cell BR2.out 5).trans (show _ = some (.int .i64 0) from rfl); have crf5 := blk_frozen BR2.out 5; have cr6 := (blk_cell BR2.out 6).trans (show _ = some (.int .i64 0) from rfl); have crf6 := blk_frozen BR2.out 6; have cr7 := (blk_cell BR2.out 7).trans (show _ = some (.int .i64 0) from rfl); have crf7 := blk_frozen BR2.out 7)
    | ((with_reducible refine gate_store (t := 87) (p := 2) rfl ?_); refine store_event (t := 87) (p := 2) (v := ?vo2) (w1 := put8 w2 g2 (.int .i64 0) (.int .i64 0) (.int .i64 0) (.int .i64 0) (.int .i64 0) (.int .i64 0) (.int .i64 0) (.int .i64 0)) ?hg ?ho ?hn ?hr ?_; (case ho => rfl); (case hg => rfl); (case hn => rfl); (case hr => first | (go_simp; done) | (go_simp; rfl)); intro w9 hw; have BX := Aside0.mk (show w9.heap[g2]? = some (.cells #[.int .i64 0, .int .i64 0, .int .i64 0, .int .i64 0, .int .i64 0, .int .i64 0, .int .i64 0, .int .i64 0] 87 (0, 0)) from by rw [hw]; exact put8_blk BR2.out (.int .i64 0) (.int .i64 0) (.int .i64 0) (.int .i64 0) (.int .i64 0) (.int .i64 0) (.int .i64 0) (.int .i64 0)); have HX := Aside0.mk (show Below w.heap.size w w9 from by rw [hw]; exact HB2.out.grown (put8_grown w2 g2 (.int .i64 0) (.int .i64 0) (.int .i64 0) (.int .i64 0) (.int .i64 0) (.int .i64 0) (.int .i64 0) (.int .i64 0)) (below_size HB2.out) (fun q hq => by cases hq; exact GR.out)); clear hw))
  refine bodyPost_ret (results_ct rfl _ _ g2 87 #[.int .i64 0, .int .i64 0, .int .i64 0, .int .i64 0, .int .i64 0, .int .i64 0, .int .i64 0, .int .i64 0] (0, 0) _ rfl BX.out Try.underlying87 rfl (by kernel_rfl)) rfl ?_
  exact ⟨T, x, rfl, HX.out⟩
end

section
open Go.BigFrame
set_option linter.unusedSimpArgs false
set_option maxHeartbeats 8000000 in
set_option maxRecDepth 100000 in
theorem ReadUTC_good (A0 : Option Addr) (c0 : Nat) (l : List Int) (y mo d h mi s na a : Int) (w : World) (hr0 : Kd.C (Kd.int .u8) w A0 l.length l) (hc0 : l.length ≤ c0) (hl : l.length ≤ 10000) (hp : ∀ (A1 : Option Addr) (c1 : Nat) (W : World), Kd.C (Kd.int .u8) W A1 l.length l → l.length ≤ c1 → Calls Try.prog 55 #[.slice A1 l.length c1] W (PGood W y mo d h mi s na a)) : Calls Try.prog 26 #[.slice A0 l.length c0] w (TGood w y mo d h mi s na a) := by
  have HP := Aside0.mk hp
  have HR0 := Aside0.mk hr0
  have HC0 := Aside0.mk hc0
  have HS := Aside0.mk (show impl_short.f l = some true by simp [impl_short.f]; omega)
  have HQ := Aside0.mk (show impl_copied.f l = some l by simp [impl_copied.f]; omega)
  have HB0 := Aside0.mk (Below.refl w.heap.size w)
  clear hp hr0 hc0 hl
  go_enter Try.func26, Try.ntmps26
  go_wp2_with (first
    | ((with_reducible refine gate_dst (N := 2) rfl ?_); refine box_event ?hg (N := 2) ?hd (cs := #[.int .i64 0, .int .i64 0, .int .i64 0, .int .i64 0, .int .i64 0, .int .i64 0, .int .i64 0, .int .i64 0]) (t := 47) ?hr ?_; (case hd => rfl); (case hg => rfl); (case hr => first | (go_simp; done) | (go_simp; rfl)); intro g2 hg w1 hbox hb; have BR1 := Aside0.mk hbox; have HB1 := Aside0.mk (below_step HB0.out hb); have GR := Aside0.mk (show w.heap.size ≤ g2 by rw [hg]; exact Nat.le_refl _); clear hbox hb hg)
    | (go_at_call 48; (with_reducible refine (impl_short.calls _ _ l true _ (Kd.C_below HR0.out HB1.out) HC0.out HS.out).mono ?_); rintro e w2 ⟨rfl, hd⟩; have BR2 := Aside0.mk (blk_below BR1.out hd.below); have HB2 := Aside0.mk (below_step HB1.out hd.below); clear hd)
    | (go_at_call 44; (with_reducible refine (impl_copied.calls _ _ l l _ (Kd.C_below HR0.out HB2.out) HC0.out HQ.out).mono ?_); rintro e w3 ⟨v0, rfl, ho, hb⟩; have BR3 := Aside0.mk (blk_below BR2.out hb); have HB3 := Aside0.mk (below_step HB2.out hb); obtain ⟨A5, c5, e5, hc5, hr5⟩ := Kd.R_reads ho; subst e5; have HR5 := Aside0.mk hr5; have HC5 := Aside0.mk hc5; clear hb ho hr5 hc5)
    | (go_at_call 55; (with_reducible refine (HP.out A5 c5 w3 HR5.out HC5.out).mono ?_); rintro e w4 ⟨rfl, hb⟩; have BR4 := Aside0.mk (blk_below BR3.out hb); have HB4 := Aside0.mk (below_step HB3.out hb); clear hb)
    | (go_at_call 54; (with_reducible refine (told_good y mo d h mi s na a _).mono ?_); rintro e w5 ⟨rfl, hb⟩; have BR5 := Aside0.mk (blk_below BR4.out hb); have HB5 := Aside0.mk (below_step HB4.out hb); clear hb; have cr0 := (blk_cell BR5.out 0).trans (show _ = some (.int .i64 0) from rfl); have crf0 := blk_frozen BR5.out 0; have cr1 := (blk_cell BR5.out 1).trans (show _ = some (.int .i64 0) from rfl); have crf1 := blk_frozen BR5.out 1; have cr2 := (blk_cell BR5.out 2).trans (show _ = some (.int .i64 0) from rfl); have crf2 := blk_frozen BR5.out 2; have cr3 := (blk_cell BR5.out 3).trans (show _ = some (.int .i64 0) from rfl); have crf3 := blk_frozen BR5.out 3; have cr4 := (blk_cell BR5.out 4).trans (show _ = some (.int .i64 0) from rfl); have crf4 := blk_frozen BR5.out 4; have cr5 := (blk_cell BR5.out 5).trans (show _ = some (.int .i64 0) from rfl); have crf5 := blk_frozen BR5.out 5; have cr6 := (blk_cell BR5.out 6).trans (show _ = some (.int .i64 0) from rfl); have crf6 := blk_frozen BR5.out 6; have cr7 := (blk_cell BR5.out 7).trans (show _ = some (.int .i64 0) from rfl); have crf7 := blk_frozen BR5.out 7)
    | ((with_reducible refine gate_store (t := 47) (p := 2) rfl ?_); refine store_event (t := 47) (p := 2) (v := ?vo2) (w1 := put8 w5 g2 (.int .i64 y) (.int .i64 mo) (.int .i64 d) (.int .i64 h) (.int .i64 mi) (.int .i64 s) (.int .i64 na) (.int .i64 a)) ?hg ?ho ?hn ?hr ?_; (case ho => rfl); (case hg => rfl); (case hn => rfl); (case hr => first | (go_simp; done) | (go_simp; rfl)); intro w9 hw; have BX := Aside0.mk (show w9.heap[g2]? = some (.cells #[.int .i64 y, .int .i64 mo, .int .i64 d, .int .i64 h, .int .i64 mi, .int .i64 s, .int .i64 na, .int .i64 a] 47 (0, 0)) from by rw [hw]; exact put8_blk BR5.out (.int .i64 y) (.int .i64 mo) (.int .i64 d) (.int .i64 h) (.int .i64 mi) (.int .i64 s) (.int .i64 na) (.int .i64 a)); have HX := Aside0.mk (show Below w.heap.size w w9 from by rw [hw]; exact HB5.out.grown (put8_grown w5 g2 (.int .i64 y) (.int .i64 mo) (.int .i64 d) (.int .i64 h) (.int .i64 mi) (.int .i64 s) (.int .i64 na) (.int .i64 a)) (below_size HB5.out) (fun q hq => by cases hq; exact GR.out)); clear hw))
  refine bodyPost_ret (results_ct rfl _ _ g2 47 #[.int .i64 y, .int .i64 mo, .int .i64 d, .int .i64 h, .int .i64 mi, .int .i64 s, .int .i64 na, .int .i64 a] (0, 0) _ rfl BX.out Try.underlying47 rfl (by kernel_rfl)) rfl ?_
  exact ⟨rfl, HX.out⟩
set_option maxHeartbeats 8000000 in
set_option maxRecDepth 100000 in
theorem ReadUTC_bad (A0 : Option Addr) (c0 : Nat) (l : List Int) (y mo d h mi s na a : Int) (w : World) (hr0 : Kd.C (Kd.int .u8) w A0 l.length l) (hc0 : l.length ≤ c0) (hl : l.length ≤ 10000) (hp : ∀ (A1 : Option Addr) (c1 : Nat) (W : World), Kd.C (Kd.int .u8) W A1 l.length l → l.length ≤ c1 → Calls Try.prog 55 #[.slice A1 l.length c1] W (PBad W)) : Calls Try.prog 26 #[.slice A0 l.length c0] w (TBad w) := by
  have HP := Aside0.mk hp
  have HR0 := Aside0.mk hr0
  have HC0 := Aside0.mk hc0
  have HS := Aside0.mk (show impl_short.f l = some true by simp [impl_short.f]; omega)
  have HQ := Aside0.mk (show impl_copied.f l = some l by simp [impl_copied.f]; omega)
  have HB0 := Aside0.mk (Below.refl w.heap.size w)
  clear hp hr0 hc0 hl
  go_enter Try.func26, Try.ntmps26
  go_wp2_with (first
    | ((with_reducible refine gate_dst (N := 2) rfl ?_); refine box_event ?hg (N := 2) ?hd (cs := #[.int .i64 0, .int .i64 0, .int .i64 0, .int .i64 0, .int .i64 0, .int .i64 0, .int .i64 0, .int .i64 0]) (t := 47) ?hr ?_; (case hd => rfl); (case hg => rfl); (case hr => first | (go_simp; done) | (go_simp; rfl)); intro g2 hg w1 hbox hb; have BR1 := Aside0.mk hbox; have HB1 := Aside0.mk (below_step HB0.out hb); have GR := Aside0.mk (show w.heap.size ≤ g2 by rw [hg]; exact Nat.le_refl _); clear hbox hb hg)
    | (go_at_call 48; (with_reducible refine (impl_short.calls _ _ l true _ (Kd.C_below HR0.out HB1.out) HC0.out HS.out).mono ?_); rintro e w2 ⟨rfl, hd⟩; have BR2 := Aside0.mk (blk_below BR1.out hd.below); have HB2 := Aside0.mk (below_step HB1.out hd.below); clear hd)
    | (go_at_call 44; (with_reducible refine (impl_copied.calls _ _ l l _ (Kd.C_below HR0.out HB2.out) HC0.out HQ.out).mono ?_); rintro e w3 ⟨v0, rfl, ho, hb⟩; have BR3 := Aside0.mk (blk_below BR2.out hb); have HB3 := Aside0.mk (below_step HB2.out hb); obtain ⟨A5, c5, e5, hc5, hr5⟩ := Kd.R_reads ho; subst e5; have HR5 := Aside0.mk hr5; have HC5 := Aside0.mk hc5; clear hb ho hr5 hc5)
    | (go_at_call 55; (with_reducible refine (HP.out A5 c5 w3 HR5.out HC5.out).mono ?_); rintro e w4 ⟨T, x, rfl, hb⟩; have BR4 := Aside0.mk (blk_below BR3.out hb); have HB4 := Aside0.mk (below_step HB3.out hb); clear hb)
    | (go_at_call 54; (with_reducible refine (told_bad 0 0 0 0 0 0 0 0 T x _).mono ?_); rintro e w5 ⟨rfl, hb⟩; have BR5 := Aside0.mk (blk_below BR4.out hb); have HB5 := Aside0.mk (below_step HB4.out hb); clear hb; have cr0 := (blk_cell BR5.out 0).trans (show _ = some (.int .i64 0) from rfl); have crf0 := blk_frozen BR5.out 0; have cr1 := (blk_cell BR5.out 1).trans (show _ = some (.int .i64 0) from rfl); have crf1 := blk_frozen BR5.out 1; have cr2 := (blk_cell BR5.out 2).trans (show _ = some (.int .i64 0) from rfl); have crf2 := blk_frozen BR5.out 2; have cr3 := (blk_cell BR5.out 3).trans (show _ = some (.int .i64 0) from rfl); have crf3 := blk_frozen BR5.out 3; have cr4 := (blk_cell BR5.out 4).trans (show _ = some (.int .i64 0) from rfl); have crf4 := blk_frozen BR5.out 4; have cr5 := (blk_cell BR5.out 5).trans (show _ = some (.int .i64 0) from rfl); have crf5 := blk_frozen BR5.out 5; have cr6 := (blk_cell BR5.out 6).trans (show _ = some (.int .i64 0) from rfl); have crf6 := blk_frozen BR5.out 6; have cr7 := (blk_cell BR5.out 7).trans (show _ = some (.int .i64 0) from rfl); have crf7 := blk_frozen BR5.out 7)
    | ((with_reducible refine gate_store (t := 47) (p := 2) rfl ?_); refine store_event (t := 47) (p := 2) (v := ?vo2) (w1 := put8 w5 g2 (.int .i64 0) (.int .i64 0) (.int .i64 0) (.int .i64 0) (.int .i64 0) (.int .i64 0) (.int .i64 0) (.int .i64 0)) ?hg ?ho ?hn ?hr ?_; (case ho => rfl); (case hg => rfl); (case hn => rfl); (case hr => first | (go_simp; done) | (go_simp; rfl)); intro w9 hw; have BX := Aside0.mk (show w9.heap[g2]? = some (.cells #[.int .i64 0, .int .i64 0, .int .i64 0, .int .i64 0, .int .i64 0, .int .i64 0, .int .i64 0, .int .i64 0] 47 (0, 0)) from by rw [hw]; exact put8_blk BR5.out (.int .i64 0) (.int .i64 0) (.int .i64 0) (.int .i64 0) (.int .i64 0) (.int .i64 0) (.int .i64 0) (.int .i64 0)); have HX := Aside0.mk (show Below w.heap.size w w9 from by rw [hw]; exact HB5.out.grown (put8_grown w5 g2 (.int .i64 0) (.int .i64 0) (.int .i64 0) (.int .i64 0) (.int .i64 0) (.int .i64 0) (.int .i64 0) (.int .i64 0)) (below_size HB5.out) (fun q hq => by cases hq; exact GR.out)); clear hw))
  refine bodyPost_ret (results_ct rfl _ _ g2 47 #[.int .i64 0, .int .i64 0, .int .i64 0, .int .i64 0, .int .i64 0, .int .i64 0, .int .i64 0, .int .i64 0] (0, 0) _ rfl BX.out Try.underlying47 rfl (by kernel_rfl)) rfl ?_
  exact ⟨rfl, HX.out⟩
theorem ReadUTC_yes (A0 : Option Addr) (c0 : Nat) (l : List Int) (w : World) (hr0 : Kd.C (Kd.int .u8) w A0 l.length l) (hc0 : l.length ≤ c0) (hl : l.length ≤ 10000) (h : uOk (strOfNums l) = true) :
    Calls Try.prog 26 #[.slice A0 l.length c0] w (TGood w (uYear (strOfNums l)) (dv2 (dr2 (strOfNums l))) (dv2 (dr2 (dr2 (strOfNums l)))) (dv2 (dr2 (dr2 (dr2 (strOfNums l))))) (dv2 (dr2 (dr2 (dr2 (dr2 (strOfNums l)))))) (uSec (strOfNums l)) 0 (zV (uR (strOfNums l)))) :=
  ReadUTC_good A0 c0 l _ _ _ _ _ _ _ _ w hr0 hc0 hl fun A1 c1 W hr hc => ZZUTC_good A1 c1 l _ _ _ _ _ _ _ _ W fun W2 hb => parseUTC_good A1 c1 l W2 (Kd.C_below hr hb) h
theorem ReadUTC_no (A0 : Option Addr) (c0 : Nat) (l : List Int) (w : World) (hr0 : Kd.C (Kd.int .u8) w A0 l.length l) (hc0 : l.length ≤ c0) (hl : l.length ≤ 10000) (h : uOk (strOfNums l) = false) :
    Calls Try.prog 26 #[.slice A0 l.length c0] w (TBad w) :=
  ReadUTC_bad A0 c0 l 0 0 0 0 0 0 0 0 w hr0 hc0 hl fun A1 c1 W hr hc => ZZUTC_bad A1 c1 l 0 0 0 0 0 0 0 0 W fun W2 hb => parseUTC_bad A1 c1 l W2 (Kd.C_below hr hb) h
end

def impl_ReadUTC.f (l0 : List Int) : Option (Int × Int × Int × Int × Int × Int × Int × Int × Bool) := if l0.length ≤ 10000 then (if uOk (strOfNums l0) = true then some (uYear (strOfNums l0), dv2 (dr2 (strOfNums l0)), dv2 (dr2 (dr2 (strOfNums l0))), dv2 (dr2 (dr2 (dr2 (strOfNums l0)))), dv2 (dr2 (dr2 (dr2 (dr2 (strOfNums l0))))), uSec (strOfNums l0), 0, zV (uR (strOfNums l0)), true) else some (0, 0, 0, 0, 0, 0, 0, 0, false)) else none
theorem impl_ReadUTC.calls (A0 : Option Addr) (c0 : Nat) (l0 : List Int) (r1 : Int) (r2 : Int) (r3 : Int) (r4 : Int) (r5 : Int) (r6 : Int) (r7 : Int) (r8 : Int) (r9 : Bool) (w : World) (hr0 : Kd.C (Kd.int .u8) w A0 l0.length l0) (hc0 : l0.length ≤ c0) (h : impl_ReadUTC.f l0 = some (r1, r2, r3, r4, r5, r6, r7, r8, r9)) :
    Calls Try.prog 26 #[.slice A0 l0.length c0] w fun e w' => e = .returned (.tuple #[.agg #[.int .i64 r1, .int .i64 r2, .int .i64 r3, .int .i64 r4, .int .i64 r5, .int .i64 r6, .int .i64 r7, .int .i64 r8], .bool r9]) ∧ Below w.heap.size w w' := by
  unfold impl_ReadUTC.f at h
  by_cases hl : l0.length ≤ 10000
  · rw [if_pos hl] at h
    by_cases ho : uOk (strOfNums l0) = true
    · rw [if_pos ho] at h
      simp only [Option.some.injEq, Prod.mk.injEq] at h
      obtain ⟨rfl, rfl, rfl, rfl, rfl, rfl, rfl, rfl, rfl⟩ := h
      exact ReadUTC_yes A0 c0 l0 w hr0 hc0 hl ho
    · rw [if_neg ho] at h
      simp only [Option.some.injEq, Prod.mk.injEq] at h
      obtain ⟨rfl, rfl, rfl, rfl, rfl, rfl, rfl, rfl, rfl⟩ := h
      exact ReadUTC_no A0 c0 l0 w hr0 hc0 hl (Bool.eq_false_iff.mpr ho)
  · rw [if_neg hl] at h
    cases h

end Go.Proofs.Ytmiemfgcggkbnaa.QP1
