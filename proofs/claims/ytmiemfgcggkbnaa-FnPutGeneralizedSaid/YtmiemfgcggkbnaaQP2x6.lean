-- Written by a program of this work (wip/patch_print.py) for this claim.
import Derived.Test.YtmiemfgcggkbnaaQP2x0
import Derived.Test.YtmiemfgcggkbnaaQP2x2
import Derived.Test.YtmiemfgcggkbnaaQP2x5
namespace Go.Proofs.Ytmiemfgcggkbnaa.QP2
open Go.RowKit Go.Proofs.YtmiemfgcggkbnaaW.PrintWords Go.Proofs.YtmiemfgcggkbnaaW.PrintLast Go.Proofs.YtmiemfgcggkbnaaW.PrintMore
attribute [local go_sem] max2_int min2_int max_two min_two max_three min_three max_four min_four   -- for this text's walks alone
set_option linter.unusedVariables false
set_option linter.unusedSimpArgs false

section
open Go.BigFrame
set_option linter.unusedSimpArgs false
theorem spec_days_eq (y m : Int) : spec_days.f 1 y m = some (daysI y m) := by
  unfold spec_days.f spec_days.j0 daysI
  by_cases h4 : m = 4
  · simp [h4]
  by_cases h6 : m = 6
  · simp [h6]
  by_cases h9 : m = 9
  · simp [h9]
  by_cases h11 : m = 11
  · simp [h11]
  by_cases h2 : m = 2
  · simp [h2]
    repeat' split
    all_goals rfl
  · simp [h4, h6, h9, h11, h2]
theorem days_any (y m : Int) (w : World) : Calls Try.prog 83 #[.int .i64 y, .int .i64 m] w fun e w' => e = .returned (.int .i64 (daysI y m)) ∧ Drawn0 w w' := spec_days.calls 1 y m _ w (spec_days_eq y m)
/-- Whether a time is one. -/
def rightB (y mo d h mi s na a : Int) : Bool := decide (0 ≤ y) && decide (y ≤ 9999) && decide (1 ≤ mo) && decide (mo ≤ 12) && decide (1 ≤ d) && decide (d ≤ daysI y mo) && decide (0 ≤ h) && decide (h < 24) && decide (0 ≤ mi) && decide (mi < 60) && decide (0 ≤ s) && decide (s < 60) && decide (0 ≤ na) && decide (na < 1000000000) && decide (-1440 < a) && decide (a < 1440)
def RightTo (w : World) (b : Bool) (e : Ending) (w' : World) : Prop := e = .returned (.bool b) ∧ Below w.heap.size w w'
theorem lex53 : Region.lexB .any (opsOf Try.f53 1) = true := by kernel_rfl
set_option maxHeartbeats 8000000 in
set_option maxRecDepth 100000 in
theorem Right_0 (y mo d h mi s na a : Int) (w : World)  (h0 : ¬ (0 ≤ y)) :
    Calls Try.prog 53 #[.agg #[.int .i64 y, .int .i64 mo, .int .i64 d, .int .i64 h, .int .i64 mi, .int .i64 s, .int .i64 na, .int .i64 a]] w (RightTo w false) := by
  have HB := Aside0.mk (Below.refl w.heap.size w)
  have hu := Try.underlying44
  have q0 : decide (0 ≤ y) = false := decide_eq_false h0
  clear h0
  go_enter Try.func53, Try.ntmps53
  go_wp2_with (((with_reducible refine gate_dst (N := 1) rfl ?_); refine box_event ?hg (N := 1) ?hd (cs := #[.int .i64 y, .int .i64 mo, .int .i64 d, .int .i64 h, .int .i64 mi, .int .i64 s, .int .i64 na, .int .i64 a]) (t := 44) ?hr ?_; (case hd => rfl); (case hg => rfl); (case hr => first | (go_simp; done) | (go_simp; rfl)); intro gb hg w3 hbox hb; have c0 := (blk_cell hbox 0).trans (show _ = some (.int .i64 y) from rfl); have c1 := (blk_cell hbox 1).trans (show _ = some (.int .i64 mo) from rfl); have c2 := (blk_cell hbox 2).trans (show _ = some (.int .i64 d) from rfl); have c3 := (blk_cell hbox 3).trans (show _ = some (.int .i64 h) from rfl); have c4 := (blk_cell hbox 4).trans (show _ = some (.int .i64 mi) from rfl); have c5 := (blk_cell hbox 5).trans (show _ = some (.int .i64 s) from rfl); have c6 := (blk_cell hbox 6).trans (show _ = some (.int .i64 na) from rfl); have c7 := (blk_cell hbox 7).trans (show _ = some (.int .i64 a) from rfl); have HB2 := Aside0.mk (below_step HB.out hb); clear hbox hb; clear hg))
  refine wp_quiet_of (ops0 := opsOf Try.f53 1) (by kernel_rfl) (by kernel_rfl) lex53 ?_
  simp only [app_cons_, app_nil_]
  repeat (go_big_quiet_step ((go_at_call 83; exact Calls.quiet_of ((days_any y mo _).mono fun _ _ ⟨he, ⟨h⟩⟩ => ⟨he, h⟩))))
  refine wpQuiet_nil ?_
  intro _ hw'
  obtain ⟨nq, hw''⟩ := hw'
  subst hw''
  go_wp2
  go_ret
  exact ⟨rfl, by repeat (first | exact HB2.out | apply pw_below_drewN)⟩
set_option maxHeartbeats 8000000 in
set_option maxRecDepth 100000 in
theorem Right_1 (y mo d h mi s na a : Int) (w : World) (h0 : 0 ≤ y) (h1 : ¬ (y ≤ 9999)) :
    Calls Try.prog 53 #[.agg #[.int .i64 y, .int .i64 mo, .int .i64 d, .int .i64 h, .int .i64 mi, .int .i64 s, .int .i64 na, .int .i64 a]] w (RightTo w false) := by
  have HB := Aside0.mk (Below.refl w.heap.size w)
  have hu := Try.underlying44
  have q0 : decide (0 ≤ y) = true := decide_eq_true h0
  have q1 : decide (y ≤ 9999) = false := decide_eq_false h1
  clear h0 h1
  go_enter Try.func53, Try.ntmps53
  go_wp2_with (((with_reducible refine gate_dst (N := 1) rfl ?_); refine box_event ?hg (N := 1) ?hd (cs := #[.int .i64 y, .int .i64 mo, .int .i64 d, .int .i64 h, .int .i64 mi, .int .i64 s, .int .i64 na, .int .i64 a]) (t := 44) ?hr ?_; (case hd => rfl); (case hg => rfl); (case hr => first | (go_simp; done) | (go_simp; rfl)); intro gb hg w3 hbox hb; have c0 := (blk_cell hbox 0).trans (show _ = some (.int .i64 y) from rfl); have c1 := (blk_cell hbox 1).trans (show _ = some (.int .i64 mo) from rfl); have c2 := (blk_cell hbox 2).trans (show _ = some (.int .i64 d) from rfl); have c3 := (blk_cell hbox 3).trans (show _ = some (.int .i64 h) from rfl); have c4 := (blk_cell hbox 4).trans (show _ = some (.int .i64 mi) from rfl); have c5 := (blk_cell hbox 5).trans (show _ = some (.int .i64 s) from rfl); have c6 := (blk_cell hbox 6).trans (show _ = some (.int .i64 na) from rfl); have c7 := (blk_cell hbox 7).trans (show _ = some (.int .i64 a) from rfl); have HB2 := Aside0.mk (below_step HB.out hb); clear hbox hb; clear hg))
  refine wp_quiet_of (ops0 := opsOf Try.f53 1) (by kernel_rfl) (by kernel_rfl) lex53 ?_
  simp only [app_cons_, app_nil_]
  repeat (go_big_quiet_step ((go_at_call 83; exact Calls.quiet_of ((days_any y mo _).mono fun _ _ ⟨he, ⟨h⟩⟩ => ⟨he, h⟩))))
  refine wpQuiet_nil ?_
  intro _ hw'
  obtain ⟨nq, hw''⟩ := hw'
  subst hw''
  go_wp2
  go_ret
  exact ⟨rfl, by repeat (first | exact HB2.out | apply pw_below_drewN)⟩
set_option maxHeartbeats 8000000 in
set_option maxRecDepth 100000 in
theorem Right_2 (y mo d h mi s na a : Int) (w : World) (h0 : 0 ≤ y) (h1 : y ≤ 9999) (h2 : ¬ (1 ≤ mo)) :
    Calls Try.prog 53 #[.agg #[.int .i64 y, .int .i64 mo, .int .i64 d, .int .i64 h, .int .i64 mi, .int .i64 s, .int .i64 na, .int .i64 a]] w (RightTo w false) := by
  have HB := Aside0.mk (Below.refl w.heap.size w)
  have hu := Try.underlying44
  have q0 : decide (0 ≤ y) = true := decide_eq_true h0
  have q1 : decide (y ≤ 9999) = true := decide_eq_true h1
  have q2 : decide (1 ≤ mo) = false := decide_eq_false h2
  clear h0 h1 h2
  go_enter Try.func53, Try.ntmps53
  go_wp2_with (((with_reducible refine gate_dst (N := 1) rfl ?_); refine box_event ?hg (N := 1) ?hd (cs := #[.int .i64 y, .int .i64 mo, .int .i64 d, .int .i64 h, .int .i64 mi, .int .i64 s, .int .i64 na, .int .i64 a]) (t := 44) ?hr ?_; (case hd => rfl); (case hg => rfl); (case hr => first | (go_simp; done) | (go_simp; rfl)); intro gb hg w3 hbox hb; have c0 := (blk_cell hbox 0).trans (show _ = some (.int .i64 y) from rfl); have c1 := (blk_cell hbox 1).trans (show _ = some (.int .i64 mo) from rfl); have c2 := (blk_cell hbox 2).trans (show _ = some (.int .i64 d) from rfl); have c3 := (blk_cell hbox 3).trans (show _ = some (.int .i64 h) from rfl); have c4 := (blk_cell hbox 4).trans (show _ = some (.int .i64 mi) from rfl); have c5 := (blk_cell hbox 5).trans (show _ = some (.int .i64 s) from rfl); have c6 := (blk_cell hbox 6).trans (show _ = some (.int .i64 na) from rfl); have c7 := (blk_cell hbox 7).trans (show _ = some (.int .i64 a) from rfl); have HB2 := Aside0.mk (below_step HB.out hb); clear hbox hb; clear hg))
  refine wp_quiet_of (ops0 := opsOf Try.f53 1) (by kernel_rfl) (by kernel_rfl) lex53 ?_
  simp only [app_cons_, app_nil_]
  repeat (go_big_quiet_step ((go_at_call 83; exact Calls.quiet_of ((days_any y mo _).mono fun _ _ ⟨he, ⟨h⟩⟩ => ⟨he, h⟩))))
  refine wpQuiet_nil ?_
  intro _ hw'
  obtain ⟨nq, hw''⟩ := hw'
  subst hw''
  go_wp2
  go_ret
  exact ⟨rfl, by repeat (first | exact HB2.out | apply pw_below_drewN)⟩
set_option maxHeartbeats 8000000 in
set_option maxRecDepth 100000 in
theorem Right_3 (y mo d h mi s na a : Int) (w : World) (h0 : 0 ≤ y) (h1 : y ≤ 9999) (h2 : 1 ≤ mo) (h3 : ¬ (mo ≤ 12)) :
    Calls Try.prog 53 #[.agg #[.int .i64 y, .int .i64 mo, .int .i64 d, .int .i64 h, .int .i64 mi, .int .i64 s, .int .i64 na, .int .i64 a]] w (RightTo w false) := by
  have HB := Aside0.mk (Below.refl w.heap.size w)
  have hu := Try.underlying44
  have q0 : decide (0 ≤ y) = true := decide_eq_true h0
  have q1 : decide (y ≤ 9999) = true := decide_eq_true h1
  have q2 : decide (1 ≤ mo) = true := decide_eq_true h2
  have q3 : decide (mo ≤ 12) = false := decide_eq_false h3
  clear h0 h1 h2 h3
  go_enter Try.func53, Try.ntmps53
  go_wp2_with (((with_reducible refine gate_dst (N := 1) rfl ?_); refine box_event ?hg (N := 1) ?hd (cs := #[.int .i64 y, .int .i64 mo, .int .i64 d, .int .i64 h, .int .i64 mi, .int .i64 s, .int .i64 na, .int .i64 a]) (t := 44) ?hr ?_; (case hd => rfl); (case hg => rfl); (case hr => first | (go_simp; done) | (go_simp; rfl)); intro gb hg w3 hbox hb; have c0 := (blk_cell hbox 0).trans (show _ = some (.int .i64 y) from rfl); have c1 := (blk_cell hbox 1).trans (show _ = some (.int .i64 mo) from rfl); have c2 := (blk_cell hbox 2).trans (show _ = some (.int .i64 d) from rfl); have c3 := (blk_cell hbox 3).trans (show _ = some (.int .i64 h) from rfl); have c4 := (blk_cell hbox 4).trans (show _ = some (.int .i64 mi) from rfl); have c5 := (blk_cell hbox 5).trans (show _ = some (.int .i64 s) from rfl); have c6 := (blk_cell hbox 6).trans (show _ = some (.int .i64 na) from rfl); have c7 := (blk_cell hbox 7).trans (show _ = some (.int .i64 a) from rfl); have HB2 := Aside0.mk (below_step HB.out hb); clear hbox hb; clear hg))
  refine wp_quiet_of (ops0 := opsOf Try.f53 1) (by kernel_rfl) (by kernel_rfl) lex53 ?_
  simp only [app_cons_, app_nil_]
  repeat (go_big_quiet_step ((go_at_call 83; exact Calls.quiet_of ((days_any y mo _).mono fun _ _ ⟨he, ⟨h⟩⟩ => ⟨he, h⟩))))
  refine wpQuiet_nil ?_
  intro _ hw'
  obtain ⟨nq, hw''⟩ := hw'
  subst hw''
  go_wp2
  go_ret
  exact ⟨rfl, by repeat (first | exact HB2.out | apply pw_below_drewN)⟩
set_option maxHeartbeats 8000000 in
set_option maxRecDepth 100000 in
theorem Right_4 (y mo d h mi s na a : Int) (w : World) (h0 : 0 ≤ y) (h1 : y ≤ 9999) (h2 : 1 ≤ mo) (h3 : mo ≤ 12) (h4 : ¬ (1 ≤ d)) :
    Calls Try.prog 53 #[.agg #[.int .i64 y, .int .i64 mo, .int .i64 d, .int .i64 h, .int .i64 mi, .int .i64 s, .int .i64 na, .int .i64 a]] w (RightTo w false) := by
  have HB := Aside0.mk (Below.refl w.heap.size w)
  have hu := Try.underlying44
  have q0 : decide (0 ≤ y) = true := decide_eq_true h0
  have q1 : decide (y ≤ 9999) = true := decide_eq_true h1
  have q2 : decide (1 ≤ mo) = true := decide_eq_true h2
  have q3 : decide (mo ≤ 12) = true := decide_eq_true h3
  have q4 : decide (1 ≤ d) = false := decide_eq_false h4
  clear h0 h1 h2 h3 h4
  go_enter Try.func53, Try.ntmps53
  go_wp2_with (((with_reducible refine gate_dst (N := 1) rfl ?_); refine box_event ?hg (N := 1) ?hd (cs := #[.int .i64 y, .int .i64 mo, .int .i64 d, .int .i64 h, .int .i64 mi, .int .i64 s, .int .i64 na, .int .i64 a]) (t := 44) ?hr ?_; (case hd => rfl); (case hg => rfl); (case hr => first | (go_simp; done) | (go_simp; rfl)); intro gb hg w3 hbox hb; have c0 := (blk_cell hbox 0).trans (show _ = some (.int .i64 y) from rfl); have c1 := (blk_cell hbox 1).trans (show _ = some (.int .i64 mo) from rfl); have c2 := (blk_cell hbox 2).trans (show _ = some (.int .i64 d) from rfl); have c3 := (blk_cell hbox 3).trans (show _ = some (.int .i64 h) from rfl); have c4 := (blk_cell hbox 4).trans (show _ = some (.int .i64 mi) from rfl); have c5 := (blk_cell hbox 5).trans (show _ = some (.int .i64 s) from rfl); have c6 := (blk_cell hbox 6).trans (show _ = some (.int .i64 na) from rfl); have c7 := (blk_cell hbox 7).trans (show _ = some (.int .i64 a) from rfl); have HB2 := Aside0.mk (below_step HB.out hb); clear hbox hb; clear hg))
  refine wp_quiet_of (ops0 := opsOf Try.f53 1) (by kernel_rfl) (by kernel_rfl) lex53 ?_
  simp only [app_cons_, app_nil_]
  repeat (go_big_quiet_step ((go_at_call 83; exact Calls.quiet_of ((days_any y mo _).mono fun _ _ ⟨he, ⟨h⟩⟩ => ⟨he, h⟩))))
  refine wpQuiet_nil ?_
  intro _ hw'
  obtain ⟨nq, hw''⟩ := hw'
  subst hw''
  go_wp2
  go_ret
  exact ⟨rfl, by repeat (first | exact HB2.out | apply pw_below_drewN)⟩
set_option maxHeartbeats 8000000 in
set_option maxRecDepth 100000 in
theorem Right_5 (y mo d h mi s na a : Int) (w : World) (h0 : 0 ≤ y) (h1 : y ≤ 9999) (h2 : 1 ≤ mo) (h3 : mo ≤ 12) (h4 : 1 ≤ d) (h5 : ¬ (d ≤ daysI y mo)) :
    Calls Try.prog 53 #[.agg #[.int .i64 y, .int .i64 mo, .int .i64 d, .int .i64 h, .int .i64 mi, .int .i64 s, .int .i64 na, .int .i64 a]] w (RightTo w false) := by
  have HB := Aside0.mk (Below.refl w.heap.size w)
  have hu := Try.underlying44
  have q0 : decide (0 ≤ y) = true := decide_eq_true h0
  have q1 : decide (y ≤ 9999) = true := decide_eq_true h1
  have q2 : decide (1 ≤ mo) = true := decide_eq_true h2
  have q3 : decide (mo ≤ 12) = true := decide_eq_true h3
  have q4 : decide (1 ≤ d) = true := decide_eq_true h4
  have q5 : decide (d ≤ daysI y mo) = false := decide_eq_false h5
  clear h0 h1 h2 h3 h4 h5
  go_enter Try.func53, Try.ntmps53
  go_wp2_with (((with_reducible refine gate_dst (N := 1) rfl ?_); refine box_event ?hg (N := 1) ?hd (cs := #[.int .i64 y, .int .i64 mo, .int .i64 d, .int .i64 h, .int .i64 mi, .int .i64 s, .int .i64 na, .int .i64 a]) (t := 44) ?hr ?_; (case hd => rfl); (case hg => rfl); (case hr => first | (go_simp; done) | (go_simp; rfl)); intro gb hg w3 hbox hb; have c0 := (blk_cell hbox 0).trans (show _ = some (.int .i64 y) from rfl); have c1 := (blk_cell hbox 1).trans (show _ = some (.int .i64 mo) from rfl); have c2 := (blk_cell hbox 2).trans (show _ = some (.int .i64 d) from rfl); have c3 := (blk_cell hbox 3).trans (show _ = some (.int .i64 h) from rfl); have c4 := (blk_cell hbox 4).trans (show _ = some (.int .i64 mi) from rfl); have c5 := (blk_cell hbox 5).trans (show _ = some (.int .i64 s) from rfl); have c6 := (blk_cell hbox 6).trans (show _ = some (.int .i64 na) from rfl); have c7 := (blk_cell hbox 7).trans (show _ = some (.int .i64 a) from rfl); have HB2 := Aside0.mk (below_step HB.out hb); clear hbox hb; clear hg))
  refine wp_quiet_of (ops0 := opsOf Try.f53 1) (by kernel_rfl) (by kernel_rfl) lex53 ?_
  simp only [app_cons_, app_nil_]
  repeat (go_big_quiet_step ((go_at_call 83; exact Calls.quiet_of ((days_any y mo _).mono fun _ _ ⟨he, ⟨h⟩⟩ => ⟨he, h⟩))))
  refine wpQuiet_nil ?_
  intro _ hw'
  obtain ⟨nq, hw''⟩ := hw'
  subst hw''
  go_wp2
  go_ret
  exact ⟨rfl, by repeat (first | exact HB2.out | apply pw_below_drewN)⟩
set_option maxHeartbeats 8000000 in
set_option maxRecDepth 100000 in
theorem Right_6 (y mo d h mi s na a : Int) (w : World) (h0 : 0 ≤ y) (h1 : y ≤ 9999) (h2 : 1 ≤ mo) (h3 : mo ≤ 12) (h4 : 1 ≤ d) (h5 : d ≤ daysI y mo) (h6 : ¬ (0 ≤ h)) :
    Calls Try.prog 53 #[.agg #[.int .i64 y, .int .i64 mo, .int .i64 d, .int .i64 h, .int .i64 mi, .int .i64 s, .int .i64 na, .int .i64 a]] w (RightTo w false) := by
  have HB := Aside0.mk (Below.refl w.heap.size w)
  have hu := Try.underlying44
  have q0 : decide (0 ≤ y) = true := decide_eq_true h0
  have q1 : decide (y ≤ 9999) = true := decide_eq_true h1
  have q2 : decide (1 ≤ mo) = true := decide_eq_true h2
  have q3 : decide (mo ≤ 12) = true := decide_eq_true h3
  have q4 : decide (1 ≤ d) = true := decide_eq_true h4
  have q5 : decide (d ≤ daysI y mo) = true := decide_eq_true h5
  have q6 : decide (0 ≤ h) = false := decide_eq_false h6
  clear h0 h1 h2 h3 h4 h5 h6
  go_enter Try.func53, Try.ntmps53
  go_wp2_with (((with_reducible refine gate_dst (N := 1) rfl ?_); refine box_event ?hg (N := 1) ?hd (cs := #[.int .i64 y, .int .i64 mo, .int .i64 d, .int .i64 h, .int .i64 mi, .int .i64 s, .int .i64 na, .int .i64 a]) (t := 44) ?hr ?_; (case hd => rfl); (case hg => rfl); (case hr => first | (go_simp; done) | (go_simp; rfl)); intro gb hg w3 hbox hb; have c0 := (blk_cell hbox 0).trans (show _ = some (.int .i64 y) from rfl); have c1 := (blk_cell hbox 1).trans (show _ = some (.int .i64 mo) from rfl); have c2 := (blk_cell hbox 2).trans (show _ = some (.int .i64 d) from rfl); have c3 := (blk_cell hbox 3).trans (show _ = some (.int .i64 h) from rfl); have c4 := (blk_cell hbox 4).trans (show _ = some (.int .i64 mi) from rfl); have c5 := (blk_cell hbox 5).trans (show _ = some (.int .i64 s) from rfl); have c6 := (blk_cell hbox 6).trans (show _ = some (.int .i64 na) from rfl); have c7 := (blk_cell hbox 7).trans (show _ = some (.int .i64 a) from rfl); have HB2 := Aside0.mk (below_step HB.out hb); clear hbox hb; clear hg))
  refine wp_quiet_of (ops0 := opsOf Try.f53 1) (by kernel_rfl) (by kernel_rfl) lex53 ?_
  simp only [app_cons_, app_nil_]
  repeat (go_big_quiet_step ((go_at_call 83; exact Calls.quiet_of ((days_any y mo _).mono fun _ _ ⟨he, ⟨h⟩⟩ => ⟨he, h⟩))))
  refine wpQuiet_nil ?_
  intro _ hw'
  obtain ⟨nq, hw''⟩ := hw'
  subst hw''
  go_wp2
  go_ret
  exact ⟨rfl, by repeat (first | exact HB2.out | apply pw_below_drewN)⟩
set_option maxHeartbeats 8000000 in
set_option maxRecDepth 100000 in
theorem Right_7 (y mo d h mi s na a : Int) (w : World) (h0 : 0 ≤ y) (h1 : y ≤ 9999) (h2 : 1 ≤ mo) (h3 : mo ≤ 12) (h4 : 1 ≤ d) (h5 : d ≤ daysI y mo) (h6 : 0 ≤ h) (h7 : ¬ (h < 24)) :
    Calls Try.prog 53 #[.agg #[.int .i64 y, .int .i64 mo, .int .i64 d, .int .i64 h, .int .i64 mi, .int .i64 s, .int .i64 na, .int .i64 a]] w (RightTo w false) := by
  have HB := Aside0.mk (Below.refl w.heap.size w)
  have hu := Try.underlying44
  have q0 : decide (0 ≤ y) = true := decide_eq_true h0
  have q1 : decide (y ≤ 9999) = true := decide_eq_true h1
  have q2 : decide (1 ≤ mo) = true := decide_eq_true h2
  have q3 : decide (mo ≤ 12) = true := decide_eq_true h3
  have q4 : decide (1 ≤ d) = true := decide_eq_true h4
  have q5 : decide (d ≤ daysI y mo) = true := decide_eq_true h5
  have q6 : decide (0 ≤ h) = true := decide_eq_true h6
  have q7 : decide (h < 24) = false := decide_eq_false h7
  clear h0 h1 h2 h3 h4 h5 h6 h7
  go_enter Try.func53, Try.ntmps53
  go_wp2_with (((with_reducible refine gate_dst (N := 1) rfl ?_); refine box_event ?hg (N := 1) ?hd (cs := #[.int .i64 y, .int .i64 mo, .int .i64 d, .int .i64 h, .int .i64 mi, .int .i64 s, .int .i64 na, .int .i64 a]) (t := 44) ?hr ?_; (case hd => rfl); (case hg => rfl); (case hr => first | (go_simp; done) | (go_simp; rfl)); intro gb hg w3 hbox hb; have c0 := (blk_cell hbox 0).trans (show _ = some (.int .i64 y) from rfl); have c1 := (blk_cell hbox 1).trans (show _ = some (.int .i64 mo) from rfl); have c2 := (blk_cell hbox 2).trans (show _ = some (.int .i64 d) from rfl); have c3 := (blk_cell hbox 3).trans (show _ = some (.int .i64 h) from rfl); have c4 := (blk_cell hbox 4).trans (show _ = some (.int .i64 mi) from rfl); have c5 := (blk_cell hbox 5).trans (show _ = some (.int .i64 s) from rfl); have c6 := (blk_cell hbox 6).trans (show _ = some (.int .i64 na) from rfl); have c7 := (blk_cell hbox 7).trans (show _ = some (.int .i64 a) from rfl); have HB2 := Aside0.mk (below_step HB.out hb); clear hbox hb; clear hg))
  refine wp_quiet_of (ops0 := opsOf Try.f53 1) (by kernel_rfl) (by kernel_rfl) lex53 ?_
  simp only [app_cons_, app_nil_]
  repeat (go_big_quiet_step ((go_at_call 83; exact Calls.quiet_of ((days_any y mo _).mono fun _ _ ⟨he, ⟨h⟩⟩ => ⟨he, h⟩))))
  refine wpQuiet_nil ?_
  intro _ hw'
  obtain ⟨nq, hw''⟩ := hw'
  subst hw''
  go_wp2
  go_ret
  exact ⟨rfl, by repeat (first | exact HB2.out | apply pw_below_drewN)⟩
set_option maxHeartbeats 8000000 in
set_option maxRecDepth 100000 in
theorem Right_8 (y mo d h mi s na a : Int) (w : World) (h0 : 0 ≤ y) (h1 : y ≤ 9999) (h2 : 1 ≤ mo) (h3 : mo ≤ 12) (h4 : 1 ≤ d) (h5 : d ≤ daysI y mo) (h6 : 0 ≤ h) (h7 : h < 24) (h8 : ¬ (0 ≤ mi)) :
    Calls Try.prog 53 #[.agg #[.int .i64 y, .int .i64 mo, .int .i64 d, .int .i64 h, .int .i64 mi, .int .i64 s, .int .i64 na, .int .i64 a]] w (RightTo w false) := by
  have HB := Aside0.mk (Below.refl w.heap.size w)
  have hu := Try.underlying44
  have q0 : decide (0 ≤ y) = true := decide_eq_true h0
  have q1 : decide (y ≤ 9999) = true := decide_eq_true h1
  have q2 : decide (1 ≤ mo) = true := decide_eq_true h2
  have q3 : decide (mo ≤ 12) = true := decide_eq_true h3
  have q4 : decide (1 ≤ d) = true := decide_eq_true h4
  have q5 : decide (d ≤ daysI y mo) = true := decide_eq_true h5
  have q6 : decide (0 ≤ h) = true := decide_eq_true h6
  have q7 : decide (h < 24) = true := decide_eq_true h7
  have q8 : decide (0 ≤ mi) = false := decide_eq_false h8
  clear h0 h1 h2 h3 h4 h5 h6 h7 h8
  go_enter Try.func53, Try.ntmps53
  go_wp2_with (((with_reducible refine gate_dst (N := 1) rfl ?_); refine box_event ?hg (N := 1) ?hd (cs := #[.int .i64 y, .int .i64 mo, .int .i64 d, .int .i64 h, .int .i64 mi, .int .i64 s, .int .i64 na, .int .i64 a]) (t := 44) ?hr ?_; (case hd => rfl); (case hg => rfl); (case hr => first | (go_simp; done) | (go_simp; rfl)); intro gb hg w3 hbox hb; have c0 := (blk_cell hbox 0).trans (show _ = some (.int .i64 y) from rfl); have c1 := (blk_cell hbox 1).trans (show _ = some (.int .i64 mo) from rfl); have c2 := (blk_cell hbox 2).trans (show _ = some (.int .i64 d) from rfl); have c3 := (blk_cell hbox 3).trans (show _ = some (.int .i64 h) from rfl); have c4 := (blk_cell hbox 4).trans (show _ = some (.int .i64 mi) from rfl); have c5 := (blk_cell hbox 5).trans (show _ = some (.int .i64 s) from rfl); have c6 := (blk_cell hbox 6).trans (show _ = some (.int .i64 na) from rfl); have c7 := (blk_cell hbox 7).trans (show _ = some (.int .i64 a) from rfl); have HB2 := Aside0.mk (below_step HB.out hb); clear hbox hb; clear hg))
  refine wp_quiet_of (ops0 := opsOf Try.f53 1) (by kernel_rfl) (by kernel_rfl) lex53 ?_
  simp only [app_cons_, app_nil_]
  repeat (go_big_quiet_step ((go_at_call 83; exact Calls.quiet_of ((days_any y mo _).mono fun _ _ ⟨he, ⟨h⟩⟩ => ⟨he, h⟩))))
  refine wpQuiet_nil ?_
  intro _ hw'
  obtain ⟨nq, hw''⟩ := hw'
  subst hw''
  go_wp2
  go_ret
  exact ⟨rfl, by repeat (first | exact HB2.out | apply pw_below_drewN)⟩
set_option maxHeartbeats 8000000 in
set_option maxRecDepth 100000 in
theorem Right_9 (y mo d h mi s na a : Int) (w : World) (h0 : 0 ≤ y) (h1 : y ≤ 9999) (h2 : 1 ≤ mo) (h3 : mo ≤ 12) (h4 : 1 ≤ d) (h5 : d ≤ daysI y mo) (h6 : 0 ≤ h) (h7 : h < 24) (h8 : 0 ≤ mi) (h9 : ¬ (mi < 60)) :
    Calls Try.prog 53 #[.agg #[.int .i64 y, .int .i64 mo, .int .i64 d, .int .i64 h, .int .i64 mi, .int .i64 s, .int .i64 na, .int .i64 a]] w (RightTo w false) := by
  have HB := Aside0.mk (Below.refl w.heap.size w)
  have hu := Try.underlying44
  have q0 : decide (0 ≤ y) = true := decide_eq_true h0
  have q1 : decide (y ≤ 9999) = true := decide_eq_true h1
  have q2 : decide (1 ≤ mo) = true := decide_eq_true h2
  have q3 : decide (mo ≤ 12) = true := decide_eq_true h3
  have q4 : decide (1 ≤ d) = true := decide_eq_true h4
  have q5 : decide (d ≤ daysI y mo) = true := decide_eq_true h5
  have q6 : decide (0 ≤ h) = true := decide_eq_true h6
  have q7 : decide (h < 24) = true := decide_eq_true h7
  have q8 : decide (0 ≤ mi) = true := decide_eq_true h8
  have q9 : decide (mi < 60) = false := decide_eq_false h9
  clear h0 h1 h2 h3 h4 h5 h6 h7 h8 h9
  go_enter Try.func53, Try.ntmps53
  go_wp2_with (((with_reducible refine gate_dst (N := 1) rfl ?_); refine box_event ?hg (N := 1) ?hd (cs := #[.int .i64 y, .int .i64 mo, .int .i64 d, .int .i64 h, .int .i64 mi, .int .i64 s, .int .i64 na, .int .i64 a]) (t := 44) ?hr ?_; (case hd => rfl); (case hg => rfl); (case hr => first | (go_simp; done) | (go_simp; rfl)); intro gb hg w3 hbox hb; have c0 := (blk_cell hbox 0).trans (show _ = some (.int .i64 y) from rfl); have c1 := (blk_cell hbox 1).trans (show _ = some (.int .i64 mo) from rfl); have c2 := (blk_cell hbox 2).trans (show _ = some (.int .i64 d) from rfl); have c3 := (blk_cell hbox 3).trans (show _ = some (.int .i64 h) from rfl); have c4 := (blk_cell hbox 4).trans (show _ = some (.int .i64 mi) from rfl); have c5 := (blk_cell hbox 5).trans (show _ = some (.int .i64 s) from rfl); have c6 := (blk_cell hbox 6).trans (show _ = some (.int .i64 na) from rfl); have c7 := (blk_cell hbox 7).trans (show _ = some (.int .i64 a) from rfl); have HB2 := Aside0.mk (below_step HB.out hb); clear hbox hb; clear hg))
  refine wp_quiet_of (ops0 := opsOf Try.f53 1) (by kernel_rfl) (by kernel_rfl) lex53 ?_
  simp only [app_cons_, app_nil_]
  repeat (go_big_quiet_step ((go_at_call 83; exact Calls.quiet_of ((days_any y mo _).mono fun _ _ ⟨he, ⟨h⟩⟩ => ⟨he, h⟩))))
  refine wpQuiet_nil ?_
  intro _ hw'
  obtain ⟨nq, hw''⟩ := hw'
  subst hw''
  go_wp2
  go_ret
  exact ⟨rfl, by repeat (first | exact HB2.out | apply pw_below_drewN)⟩
set_option maxHeartbeats 8000000 in
set_option maxRecDepth 100000 in
theorem Right_10 (y mo d h mi s na a : Int) (w : World) (h0 : 0 ≤ y) (h1 : y ≤ 9999) (h2 : 1 ≤ mo) (h3 : mo ≤ 12) (h4 : 1 ≤ d) (h5 : d ≤ daysI y mo) (h6 : 0 ≤ h) (h7 : h < 24) (h8 : 0 ≤ mi) (h9 : mi < 60) (h10 : ¬ (0 ≤ s)) :
    Calls Try.prog 53 #[.agg #[.int .i64 y, .int .i64 mo, .int .i64 d, .int .i64 h, .int .i64 mi, .int .i64 s, .int .i64 na, .int .i64 a]] w (RightTo w false) := by
  have HB := Aside0.mk (Below.refl w.heap.size w)
  have hu := Try.underlying44
  have q0 : decide (0 ≤ y) = true := decide_eq_true h0
  have q1 : decide (y ≤ 9999) = true := decide_eq_true h1
  have q2 : decide (1 ≤ mo) = true := decide_eq_true h2
  have q3 : decide (mo ≤ 12) = true := decide_eq_true h3
  have q4 : decide (1 ≤ d) = true := decide_eq_true h4
  have q5 : decide (d ≤ daysI y mo) = true := decide_eq_true h5
  have q6 : decide (0 ≤ h) = true := decide_eq_true h6
  have q7 : decide (h < 24) = true := decide_eq_true h7
  have q8 : decide (0 ≤ mi) = true := decide_eq_true h8
  have q9 : decide (mi < 60) = true := decide_eq_true h9
  have q10 : decide (0 ≤ s) = false := decide_eq_false h10
  clear h0 h1 h2 h3 h4 h5 h6 h7 h8 h9 h10
  go_enter Try.func53, Try.ntmps53
  go_wp2_with (((with_reducible refine gate_dst (N := 1) rfl ?_); refine box_event ?hg (N := 1) ?hd (cs := #[.int .i64 y, .int .i64 mo, .int .i64 d, .int .i64 h, .int .i64 mi, .int .i64 s, .int .i64 na, .int .i64 a]) (t := 44) ?hr ?_; (case hd => rfl); (case hg => rfl); (case hr => first | (go_simp; done) | (go_simp; rfl)); intro gb hg w3 hbox hb; have c0 := (blk_cell hbox 0).trans (show _ = some (.int .i64 y) from rfl); have c1 := (blk_cell hbox 1).trans (show _ = some (.int .i64 mo) from rfl); have c2 := (blk_cell hbox 2).trans (show _ = some (.int .i64 d) from rfl); have c3 := (blk_cell hbox 3).trans (show _ = some (.int .i64 h) from rfl); have c4 := (blk_cell hbox 4).trans (show _ = some (.int .i64 mi) from rfl); have c5 := (blk_cell hbox 5).trans (show _ = some (.int .i64 s) from rfl); have c6 := (blk_cell hbox 6).trans (show _ = some (.int .i64 na) from rfl); have c7 := (blk_cell hbox 7).trans (show _ = some (.int .i64 a) from rfl); have HB2 := Aside0.mk (below_step HB.out hb); clear hbox hb; clear hg))
  refine wp_quiet_of (ops0 := opsOf Try.f53 1) (by kernel_rfl) (by kernel_rfl) lex53 ?_
  simp only [app_cons_, app_nil_]
  repeat (go_big_quiet_step ((go_at_call 83; exact Calls.quiet_of ((days_any y mo _).mono fun _ _ ⟨he, ⟨h⟩⟩ => ⟨he, h⟩))))
  refine wpQuiet_nil ?_
  intro _ hw'
  obtain ⟨nq, hw''⟩ := hw'
  subst hw''
  go_wp2
  go_ret
  exact ⟨rfl, by repeat (first | exact HB2.out | apply pw_below_drewN)⟩
set_option maxHeartbeats 8000000 in
set_option maxRecDepth 100000 in
theorem Right_11 (y mo d h mi s na a : Int) (w : World) (h0 : 0 ≤ y) (h1 : y ≤ 9999) (h2 : 1 ≤ mo) (h3 : mo ≤ 12) (h4 : 1 ≤ d) (h5 : d ≤ daysI y mo) (h6 : 0 ≤ h) (h7 : h < 24) (h8 : 0 ≤ mi) (h9 : mi < 60) (h10 : 0 ≤ s) (h11 : ¬ (s < 60)) :
    Calls Try.prog 53 #[.agg #[.int .i64 y, .int .i64 mo, .int .i64 d, .int .i64 h, .int .i64 mi, .int .i64 s, .int .i64 na, .int .i64 a]] w (RightTo w false) := by
  have HB := Aside0.mk (Below.refl w.heap.size w)
  have hu := Try.underlying44
  have q0 : decide (0 ≤ y) = true := decide_eq_true h0
  have q1 : decide (y ≤ 9999) = true := decide_eq_true h1
  have q2 : decide (1 ≤ mo) = true := decide_eq_true h2
  have q3 : decide (mo ≤ 12) = true := decide_eq_true h3
  have q4 : decide (1 ≤ d) = true := decide_eq_true h4
  have q5 : decide (d ≤ daysI y mo) = true := decide_eq_true h5
  have q6 : decide (0 ≤ h) = true := decide_eq_true h6
  have q7 : decide (h < 24) = true := decide_eq_true h7
  have q8 : decide (0 ≤ mi) = true := decide_eq_true h8
  have q9 : decide (mi < 60) = true := decide_eq_true h9
  have q10 : decide (0 ≤ s) = true := decide_eq_true h10
  have q11 : decide (s < 60) = false := decide_eq_false h11
  clear h0 h1 h2 h3 h4 h5 h6 h7 h8 h9 h10 h11
  go_enter Try.func53, Try.ntmps53
  go_wp2_with (((with_reducible refine gate_dst (N := 1) rfl ?_); refine box_event ?hg (N := 1) ?hd (cs := #[.int .i64 y, .int .i64 mo, .int .i64 d, .int .i64 h, .int .i64 mi, .int .i64 s, .int .i64 na, .int .i64 a]) (t := 44) ?hr ?_; (case hd => rfl); (case hg => rfl); (case hr => first | (go_simp; done) | (go_simp; rfl)); intro gb hg w3 hbox hb; have c0 := (blk_cell hbox 0).trans (show _ = some (.int .i64 y) from rfl); have c1 := (blk_cell hbox 1).trans (show _ = some (.int .i64 mo) from rfl); have c2 := (blk_cell hbox 2).trans (show _ = some (.int .i64 d) from rfl); have c3 := (blk_cell hbox 3).trans (show _ = some (.int .i64 h) from rfl); have c4 := (blk_cell hbox 4).trans (show _ = some (.int .i64 mi) from rfl); have c5 := (blk_cell hbox 5).trans (show _ = some (.int .i64 s) from rfl); have c6 := (blk_cell hbox 6).trans (show _ = some (.int .i64 na) from rfl); have c7 := (blk_cell hbox 7).trans (show _ = some (.int .i64 a) from rfl); have HB2 := Aside0.mk (below_step HB.out hb); clear hbox hb; clear hg))
  refine wp_quiet_of (ops0 := opsOf Try.f53 1) (by kernel_rfl) (by kernel_rfl) lex53 ?_
  simp only [app_cons_, app_nil_]
  repeat (go_big_quiet_step ((go_at_call 83; exact Calls.quiet_of ((days_any y mo _).mono fun _ _ ⟨he, ⟨h⟩⟩ => ⟨he, h⟩))))
  refine wpQuiet_nil ?_
  intro _ hw'
  obtain ⟨nq, hw''⟩ := hw'
  subst hw''
  go_wp2
  go_ret
  exact ⟨rfl, by repeat (first | exact HB2.out | apply pw_below_drewN)⟩
set_option maxHeartbeats 8000000 in
set_option maxRecDepth 100000 in
theorem Right_12 (y mo d h mi s na a : Int) (w : World) (h0 : 0 ≤ y) (h1 : y ≤ 9999) (h2 : 1 ≤ mo) (h3 : mo ≤ 12) (h4 : 1 ≤ d) (h5 : d ≤ daysI y mo) (h6 : 0 ≤ h) (h7 : h < 24) (h8 : 0 ≤ mi) (h9 : mi < 60) (h10 : 0 ≤ s) (h11 : s < 60) (h12 : ¬ (0 ≤ na)) :
    Calls Try.prog 53 #[.agg #[.int .i64 y, .int .i64 mo, .int .i64 d, .int .i64 h, .int .i64 mi, .int .i64 s, .int .i64 na, .int .i64 a]] w (RightTo w false) := by
  have HB := Aside0.mk (Below.refl w.heap.size w)
  have hu := Try.underlying44
  have q0 : decide (0 ≤ y) = true := decide_eq_true h0
  have q1 : decide (y ≤ 9999) = true := decide_eq_true h1
  have q2 : decide (1 ≤ mo) = true := decide_eq_true h2
  have q3 : decide (mo ≤ 12) = true := decide_eq_true h3
  have q4 : decide (1 ≤ d) = true := decide_eq_true h4
  have q5 : decide (d ≤ daysI y mo) = true := decide_eq_true h5
  have q6 : decide (0 ≤ h) = true := decide_eq_true h6
  have q7 : decide (h < 24) = true := decide_eq_true h7
  have q8 : decide (0 ≤ mi) = true := decide_eq_true h8
  have q9 : decide (mi < 60) = true := decide_eq_true h9
  have q10 : decide (0 ≤ s) = true := decide_eq_true h10
  have q11 : decide (s < 60) = true := decide_eq_true h11
  have q12 : decide (0 ≤ na) = false := decide_eq_false h12
  clear h0 h1 h2 h3 h4 h5 h6 h7 h8 h9 h10 h11 h12
  go_enter Try.func53, Try.ntmps53
  go_wp2_with (((with_reducible refine gate_dst (N := 1) rfl ?_); refine box_event ?hg (N := 1) ?hd (cs := #[.int .i64 y, .int .i64 mo, .int .i64 d, .int .i64 h, .int .i64 mi, .int .i64 s, .int .i64 na, .int .i64 a]) (t := 44) ?hr ?_; (case hd => rfl); (case hg => rfl); (case hr => first | (go_simp; done) | (go_simp; rfl)); intro gb hg w3 hbox hb; have c0 := (blk_cell hbox 0).trans (show _ = some (.int .i64 y) from rfl); have c1 := (blk_cell hbox 1).trans (show _ = some (.int .i64 mo) from rfl); have c2 := (blk_cell hbox 2).trans (show _ = some (.int .i64 d) from rfl); have c3 := (blk_cell hbox 3).trans (show _ = some (.int .i64 h) from rfl); have c4 := (blk_cell hbox 4).trans (show _ = some (.int .i64 mi) from rfl); have c5 := (blk_cell hbox 5).trans (show _ = some (.int .i64 s) from rfl); have c6 := (blk_cell hbox 6).trans (show _ = some (.int .i64 na) from rfl); have c7 := (blk_cell hbox 7).trans (show _ = some (.int .i64 a) from rfl); have HB2 := Aside0.mk (below_step HB.out hb); clear hbox hb; clear hg))
  refine wp_quiet_of (ops0 := opsOf Try.f53 1) (by kernel_rfl) (by kernel_rfl) lex53 ?_
  simp only [app_cons_, app_nil_]
  repeat (go_big_quiet_step ((go_at_call 83; exact Calls.quiet_of ((days_any y mo _).mono fun _ _ ⟨he, ⟨h⟩⟩ => ⟨he, h⟩))))
  refine wpQuiet_nil ?_
  intro _ hw'
  obtain ⟨nq, hw''⟩ := hw'
  subst hw''
  go_wp2
  go_ret
  exact ⟨rfl, by repeat (first | exact HB2.out | apply pw_below_drewN)⟩
set_option maxHeartbeats 8000000 in
set_option maxRecDepth 100000 in
theorem Right_13 (y mo d h mi s na a : Int) (w : World) (h0 : 0 ≤ y) (h1 : y ≤ 9999) (h2 : 1 ≤ mo) (h3 : mo ≤ 12) (h4 : 1 ≤ d) (h5 : d ≤ daysI y mo) (h6 : 0 ≤ h) (h7 : h < 24) (h8 : 0 ≤ mi) (h9 : mi < 60) (h10 : 0 ≤ s) (h11 : s < 60) (h12 : 0 ≤ na) (h13 : ¬ (na < 1000000000)) :
    Calls Try.prog 53 #[.agg #[.int .i64 y, .int .i64 mo, .int .i64 d, .int .i64 h, .int .i64 mi, .int .i64 s, .int .i64 na, .int .i64 a]] w (RightTo w false) := by
  have HB := Aside0.mk (Below.refl w.heap.size w)
  have hu := Try.underlying44
  have q0 : decide (0 ≤ y) = true := decide_eq_true h0
  have q1 : decide (y ≤ 9999) = true := decide_eq_true h1
  have q2 : decide (1 ≤ mo) = true := decide_eq_true h2
  have q3 : decide (mo ≤ 12) = true := decide_eq_true h3
  have q4 : decide (1 ≤ d) = true := decide_eq_true h4
  have q5 : decide (d ≤ daysI y mo) = true := decide_eq_true h5
  have q6 : decide (0 ≤ h) = true := decide_eq_true h6
  have q7 : decide (h < 24) = true := decide_eq_true h7
  have q8 : decide (0 ≤ mi) = true := decide_eq_true h8
  have q9 : decide (mi < 60) = true := decide_eq_true h9
  have q10 : decide (0 ≤ s) = true := decide_eq_true h10
  have q11 : decide (s < 60) = true := decide_eq_true h11
  have q12 : decide (0 ≤ na) = true := decide_eq_true h12
  have q13 : decide (na < 1000000000) = false := decide_eq_false h13
  clear h0 h1 h2 h3 h4 h5 h6 h7 h8 h9 h10 h11 h12 h13
  go_enter Try.func53, Try.ntmps53
  go_wp2_with (((with_reducible refine gate_dst (N := 1) rfl ?_); refine box_event ?hg (N := 1) ?hd (cs := #[.int .i64 y, .int .i64 mo, .int .i64 d, .int .i64 h, .int .i64 mi, .int .i64 s, .int .i64 na, .int .i64 a]) (t := 44) ?hr ?_; (case hd => rfl); (case hg => rfl); (case hr => first | (go_simp; done) | (go_simp; rfl)); intro gb hg w3 hbox hb; have c0 := (blk_cell hbox 0).trans (show _ = some (.int .i64 y) from rfl); have c1 := (blk_cell hbox 1).trans (show _ = some (.int .i64 mo) from rfl); have c2 := (blk_cell hbox 2).trans (show _ = some (.int .i64 d) from rfl); have c3 := (blk_cell hbox 3).trans (show _ = some (.int .i64 h) from rfl); have c4 := (blk_cell hbox 4).trans (show _ = some (.int .i64 mi) from rfl); have c5 := (blk_cell hbox 5).trans (show _ = some (.int .i64 s) from rfl); have c6 := (blk_cell hbox 6).trans (show _ = some (.int .i64 na) from rfl); have c7 := (blk_cell hbox 7).trans (show _ = some (.int .i64 a) from rfl); have HB2 := Aside0.mk (below_step HB.out hb); clear hbox hb; clear hg))
  refine wp_quiet_of (ops0 := opsOf Try.f53 1) (by kernel_rfl) (by kernel_rfl) lex53 ?_
  simp only [app_cons_, app_nil_]
  repeat (go_big_quiet_step ((go_at_call 83; exact Calls.quiet_of ((days_any y mo _).mono fun _ _ ⟨he, ⟨h⟩⟩ => ⟨he, h⟩))))
  refine wpQuiet_nil ?_
  intro _ hw'
  obtain ⟨nq, hw''⟩ := hw'
  subst hw''
  go_wp2
  go_ret
  exact ⟨rfl, by repeat (first | exact HB2.out | apply pw_below_drewN)⟩
set_option maxHeartbeats 8000000 in
set_option maxRecDepth 100000 in
theorem Right_14 (y mo d h mi s na a : Int) (w : World) (h0 : 0 ≤ y) (h1 : y ≤ 9999) (h2 : 1 ≤ mo) (h3 : mo ≤ 12) (h4 : 1 ≤ d) (h5 : d ≤ daysI y mo) (h6 : 0 ≤ h) (h7 : h < 24) (h8 : 0 ≤ mi) (h9 : mi < 60) (h10 : 0 ≤ s) (h11 : s < 60) (h12 : 0 ≤ na) (h13 : na < 1000000000) (h14 : ¬ (-1440 < a)) :
    Calls Try.prog 53 #[.agg #[.int .i64 y, .int .i64 mo, .int .i64 d, .int .i64 h, .int .i64 mi, .int .i64 s, .int .i64 na, .int .i64 a]] w (RightTo w false) := by
  have HB := Aside0.mk (Below.refl w.heap.size w)
  have hu := Try.underlying44
  have q0 : decide (0 ≤ y) = true := decide_eq_true h0
  have q1 : decide (y ≤ 9999) = true := decide_eq_true h1
  have q2 : decide (1 ≤ mo) = true := decide_eq_true h2
  have q3 : decide (mo ≤ 12) = true := decide_eq_true h3
  have q4 : decide (1 ≤ d) = true := decide_eq_true h4
  have q5 : decide (d ≤ daysI y mo) = true := decide_eq_true h5
  have q6 : decide (0 ≤ h) = true := decide_eq_true h6
  have q7 : decide (h < 24) = true := decide_eq_true h7
  have q8 : decide (0 ≤ mi) = true := decide_eq_true h8
  have q9 : decide (mi < 60) = true := decide_eq_true h9
  have q10 : decide (0 ≤ s) = true := decide_eq_true h10
  have q11 : decide (s < 60) = true := decide_eq_true h11
  have q12 : decide (0 ≤ na) = true := decide_eq_true h12
  have q13 : decide (na < 1000000000) = true := decide_eq_true h13
  have q14 : decide (-1440 < a) = false := decide_eq_false h14
  clear h0 h1 h2 h3 h4 h5 h6 h7 h8 h9 h10 h11 h12 h13 h14
  go_enter Try.func53, Try.ntmps53
  go_wp2_with (((with_reducible refine gate_dst (N := 1) rfl ?_); refine box_event ?hg (N := 1) ?hd (cs := #[.int .i64 y, .int .i64 mo, .int .i64 d, .int .i64 h, .int .i64 mi, .int .i64 s, .int .i64 na, .int .i64 a]) (t := 44) ?hr ?_; (case hd => rfl); (case hg => rfl); (case hr => first | (go_simp; done) | (go_simp; rfl)); intro gb hg w3 hbox hb; have c0 := (blk_cell hbox 0).trans (show _ = some (.int .i64 y) from rfl); have c1 := (blk_cell hbox 1).trans (show _ = some (.int .i64 mo) from rfl); have c2 := (blk_cell hbox 2).trans (show _ = some (.int .i64 d) from rfl); have c3 := (blk_cell hbox 3).trans (show _ = some (.int .i64 h) from rfl); have c4 := (blk_cell hbox 4).trans (show _ = some (.int .i64 mi) from rfl); have c5 := (blk_cell hbox 5).trans (show _ = some (.int .i64 s) from rfl); have c6 := (blk_cell hbox 6).trans (show _ = some (.int .i64 na) from rfl); have c7 := (blk_cell hbox 7).trans (show _ = some (.int .i64 a) from rfl); have HB2 := Aside0.mk (below_step HB.out hb); clear hbox hb; clear hg))
  refine wp_quiet_of (ops0 := opsOf Try.f53 1) (by kernel_rfl) (by kernel_rfl) lex53 ?_
  simp only [app_cons_, app_nil_]
  repeat (go_big_quiet_step ((go_at_call 83; exact Calls.quiet_of ((days_any y mo _).mono fun _ _ ⟨he, ⟨h⟩⟩ => ⟨he, h⟩))))
  refine wpQuiet_nil ?_
  intro _ hw'
  obtain ⟨nq, hw''⟩ := hw'
  subst hw''
  go_wp2
  go_ret
  exact ⟨rfl, by repeat (first | exact HB2.out | apply pw_below_drewN)⟩
set_option maxHeartbeats 8000000 in
set_option maxRecDepth 100000 in
theorem Right_15 (y mo d h mi s na a : Int) (w : World) (h0 : 0 ≤ y) (h1 : y ≤ 9999) (h2 : 1 ≤ mo) (h3 : mo ≤ 12) (h4 : 1 ≤ d) (h5 : d ≤ daysI y mo) (h6 : 0 ≤ h) (h7 : h < 24) (h8 : 0 ≤ mi) (h9 : mi < 60) (h10 : 0 ≤ s) (h11 : s < 60) (h12 : 0 ≤ na) (h13 : na < 1000000000) (h14 : -1440 < a) (h15 : ¬ (a < 1440)) :
    Calls Try.prog 53 #[.agg #[.int .i64 y, .int .i64 mo, .int .i64 d, .int .i64 h, .int .i64 mi, .int .i64 s, .int .i64 na, .int .i64 a]] w (RightTo w false) := by
  have HB := Aside0.mk (Below.refl w.heap.size w)
  have hu := Try.underlying44
  have q0 : decide (0 ≤ y) = true := decide_eq_true h0
  have q1 : decide (y ≤ 9999) = true := decide_eq_true h1
  have q2 : decide (1 ≤ mo) = true := decide_eq_true h2
  have q3 : decide (mo ≤ 12) = true := decide_eq_true h3
  have q4 : decide (1 ≤ d) = true := decide_eq_true h4
  have q5 : decide (d ≤ daysI y mo) = true := decide_eq_true h5
  have q6 : decide (0 ≤ h) = true := decide_eq_true h6
  have q7 : decide (h < 24) = true := decide_eq_true h7
  have q8 : decide (0 ≤ mi) = true := decide_eq_true h8
  have q9 : decide (mi < 60) = true := decide_eq_true h9
  have q10 : decide (0 ≤ s) = true := decide_eq_true h10
  have q11 : decide (s < 60) = true := decide_eq_true h11
  have q12 : decide (0 ≤ na) = true := decide_eq_true h12
  have q13 : decide (na < 1000000000) = true := decide_eq_true h13
  have q14 : decide (-1440 < a) = true := decide_eq_true h14
  have q15 : decide (a < 1440) = false := decide_eq_false h15
  clear h0 h1 h2 h3 h4 h5 h6 h7 h8 h9 h10 h11 h12 h13 h14 h15
  go_enter Try.func53, Try.ntmps53
  go_wp2_with (((with_reducible refine gate_dst (N := 1) rfl ?_); refine box_event ?hg (N := 1) ?hd (cs := #[.int .i64 y, .int .i64 mo, .int .i64 d, .int .i64 h, .int .i64 mi, .int .i64 s, .int .i64 na, .int .i64 a]) (t := 44) ?hr ?_; (case hd => rfl); (case hg => rfl); (case hr => first | (go_simp; done) | (go_simp; rfl)); intro gb hg w3 hbox hb; have c0 := (blk_cell hbox 0).trans (show _ = some (.int .i64 y) from rfl); have c1 := (blk_cell hbox 1).trans (show _ = some (.int .i64 mo) from rfl); have c2 := (blk_cell hbox 2).trans (show _ = some (.int .i64 d) from rfl); have c3 := (blk_cell hbox 3).trans (show _ = some (.int .i64 h) from rfl); have c4 := (blk_cell hbox 4).trans (show _ = some (.int .i64 mi) from rfl); have c5 := (blk_cell hbox 5).trans (show _ = some (.int .i64 s) from rfl); have c6 := (blk_cell hbox 6).trans (show _ = some (.int .i64 na) from rfl); have c7 := (blk_cell hbox 7).trans (show _ = some (.int .i64 a) from rfl); have HB2 := Aside0.mk (below_step HB.out hb); clear hbox hb; clear hg))
  refine wp_quiet_of (ops0 := opsOf Try.f53 1) (by kernel_rfl) (by kernel_rfl) lex53 ?_
  simp only [app_cons_, app_nil_]
  repeat (go_big_quiet_step ((go_at_call 83; exact Calls.quiet_of ((days_any y mo _).mono fun _ _ ⟨he, ⟨h⟩⟩ => ⟨he, h⟩))))
  refine wpQuiet_nil ?_
  intro _ hw'
  obtain ⟨nq, hw''⟩ := hw'
  subst hw''
  go_wp2
  go_ret
  exact ⟨rfl, by repeat (first | exact HB2.out | apply pw_below_drewN)⟩
set_option maxHeartbeats 8000000 in
set_option maxRecDepth 100000 in
theorem Right_16 (y mo d h mi s na a : Int) (w : World) (h0 : 0 ≤ y) (h1 : y ≤ 9999) (h2 : 1 ≤ mo) (h3 : mo ≤ 12) (h4 : 1 ≤ d) (h5 : d ≤ daysI y mo) (h6 : 0 ≤ h) (h7 : h < 24) (h8 : 0 ≤ mi) (h9 : mi < 60) (h10 : 0 ≤ s) (h11 : s < 60) (h12 : 0 ≤ na) (h13 : na < 1000000000) (h14 : -1440 < a) (h15 : a < 1440) :
    Calls Try.prog 53 #[.agg #[.int .i64 y, .int .i64 mo, .int .i64 d, .int .i64 h, .int .i64 mi, .int .i64 s, .int .i64 na, .int .i64 a]] w (RightTo w true) := by
  have HB := Aside0.mk (Below.refl w.heap.size w)
  have hu := Try.underlying44
  have q0 : decide (0 ≤ y) = true := decide_eq_true h0
  have q1 : decide (y ≤ 9999) = true := decide_eq_true h1
  have q2 : decide (1 ≤ mo) = true := decide_eq_true h2
  have q3 : decide (mo ≤ 12) = true := decide_eq_true h3
  have q4 : decide (1 ≤ d) = true := decide_eq_true h4
  have q5 : decide (d ≤ daysI y mo) = true := decide_eq_true h5
  have q6 : decide (0 ≤ h) = true := decide_eq_true h6
  have q7 : decide (h < 24) = true := decide_eq_true h7
  have q8 : decide (0 ≤ mi) = true := decide_eq_true h8
  have q9 : decide (mi < 60) = true := decide_eq_true h9
  have q10 : decide (0 ≤ s) = true := decide_eq_true h10
  have q11 : decide (s < 60) = true := decide_eq_true h11
  have q12 : decide (0 ≤ na) = true := decide_eq_true h12
  have q13 : decide (na < 1000000000) = true := decide_eq_true h13
  have q14 : decide (-1440 < a) = true := decide_eq_true h14
  have q15 : decide (a < 1440) = true := decide_eq_true h15
  clear h0 h1 h2 h3 h4 h5 h6 h7 h8 h9 h10 h11 h12 h13 h14 h15
  go_enter Try.func53, Try.ntmps53
  go_wp2_with (((with_reducible refine gate_dst (N := 1) rfl ?_); refine box_event ?hg (N := 1) ?hd (cs := #[.int .i64 y, .int .i64 mo, .int .i64 d, .int .i64 h, .int .i64 mi, .int .i64 s, .int .i64 na, .int .i64 a]) (t := 44) ?hr ?_; (case hd => rfl); (case hg => rfl); (case hr => first | (go_simp; done) | (go_simp; rfl)); intro gb hg w3 hbox hb; have c0 := (blk_cell hbox 0).trans (show _ = some (.int .i64 y) from rfl); have c1 := (blk_cell hbox 1).trans (show _ = some (.int .i64 mo) from rfl); have c2 := (blk_cell hbox 2).trans (show _ = some (.int .i64 d) from rfl); have c3 := (blk_cell hbox 3).trans (show _ = some (.int .i64 h) from rfl); have c4 := (blk_cell hbox 4).trans (show _ = some (.int .i64 mi) from rfl); have c5 := (blk_cell hbox 5).trans (show _ = some (.int .i64 s) from rfl); have c6 := (blk_cell hbox 6).trans (show _ = some (.int .i64 na) from rfl); have c7 := (blk_cell hbox 7).trans (show _ = some (.int .i64 a) from rfl); have HB2 := Aside0.mk (below_step HB.out hb); clear hbox hb; clear hg))
  refine wp_quiet_of (ops0 := opsOf Try.f53 1) (by kernel_rfl) (by kernel_rfl) lex53 ?_
  simp only [app_cons_, app_nil_]
  repeat (go_big_quiet_step ((go_at_call 83; exact Calls.quiet_of ((days_any y mo _).mono fun _ _ ⟨he, ⟨h⟩⟩ => ⟨he, h⟩))))
  refine wpQuiet_nil ?_
  intro _ hw'
  obtain ⟨nq, hw''⟩ := hw'
  subst hw''
  go_wp2
  go_ret
  exact ⟨rfl, by repeat (first | exact HB2.out | apply pw_below_drewN)⟩
theorem Right_any (y mo d h mi s na a : Int) (w : World) : Calls Try.prog 53 #[.agg #[.int .i64 y, .int .i64 mo, .int .i64 d, .int .i64 h, .int .i64 mi, .int .i64 s, .int .i64 na, .int .i64 a]] w (RightTo w (rightB y mo d h mi s na a)) := by
  by_cases h0 : 0 ≤ y
  case neg =>
    have hb : rightB y mo d h mi s na a = false := by
      unfold rightB
      rw [decide_eq_false h0]
      simp
    rw [hb]; exact Right_0 y mo d h mi s na a w h0
  by_cases h1 : y ≤ 9999
  case neg =>
    have hb : rightB y mo d h mi s na a = false := by
      unfold rightB
      rw [decide_eq_false h1]
      simp
    rw [hb]; exact Right_1 y mo d h mi s na a w h0 h1
  by_cases h2 : 1 ≤ mo
  case neg =>
    have hb : rightB y mo d h mi s na a = false := by
      unfold rightB
      rw [decide_eq_false h2]
      simp
    rw [hb]; exact Right_2 y mo d h mi s na a w h0 h1 h2
  by_cases h3 : mo ≤ 12
  case neg =>
    have hb : rightB y mo d h mi s na a = false := by
      unfold rightB
      rw [decide_eq_false h3]
      simp
    rw [hb]; exact Right_3 y mo d h mi s na a w h0 h1 h2 h3
  by_cases h4 : 1 ≤ d
  case neg =>
    have hb : rightB y mo d h mi s na a = false := by
      unfold rightB
      rw [decide_eq_false h4]
      simp
    rw [hb]; exact Right_4 y mo d h mi s na a w h0 h1 h2 h3 h4
  by_cases h5 : d ≤ daysI y mo
  case neg =>
    have hb : rightB y mo d h mi s na a = false := by
      unfold rightB
      rw [decide_eq_false h5]
      simp
    rw [hb]; exact Right_5 y mo d h mi s na a w h0 h1 h2 h3 h4 h5
  by_cases h6 : 0 ≤ h
  case neg =>
    have hb : rightB y mo d h mi s na a = false := by
      unfold rightB
      rw [decide_eq_false h6]
      simp
    rw [hb]; exact Right_6 y mo d h mi s na a w h0 h1 h2 h3 h4 h5 h6
  by_cases h7 : h < 24
  case neg =>
    have hb : rightB y mo d h mi s na a = false := by
      unfold rightB
      rw [decide_eq_false h7]
      simp
    rw [hb]; exact Right_7 y mo d h mi s na a w h0 h1 h2 h3 h4 h5 h6 h7
  by_cases h8 : 0 ≤ mi
  case neg =>
    have hb : rightB y mo d h mi s na a = false := by
      unfold rightB
      rw [decide_eq_false h8]
      simp
    rw [hb]; exact Right_8 y mo d h mi s na a w h0 h1 h2 h3 h4 h5 h6 h7 h8
  by_cases h9 : mi < 60
  case neg =>
    have hb : rightB y mo d h mi s na a = false := by
      unfold rightB
      rw [decide_eq_false h9]
      simp
    rw [hb]; exact Right_9 y mo d h mi s na a w h0 h1 h2 h3 h4 h5 h6 h7 h8 h9
  by_cases h10 : 0 ≤ s
  case neg =>
    have hb : rightB y mo d h mi s na a = false := by
      unfold rightB
      rw [decide_eq_false h10]
      simp
    rw [hb]; exact Right_10 y mo d h mi s na a w h0 h1 h2 h3 h4 h5 h6 h7 h8 h9 h10
  by_cases h11 : s < 60
  case neg =>
    have hb : rightB y mo d h mi s na a = false := by
      unfold rightB
      rw [decide_eq_false h11]
      simp
    rw [hb]; exact Right_11 y mo d h mi s na a w h0 h1 h2 h3 h4 h5 h6 h7 h8 h9 h10 h11
  by_cases h12 : 0 ≤ na
  case neg =>
    have hb : rightB y mo d h mi s na a = false := by
      unfold rightB
      rw [decide_eq_false h12]
      simp
    rw [hb]; exact Right_12 y mo d h mi s na a w h0 h1 h2 h3 h4 h5 h6 h7 h8 h9 h10 h11 h12
  by_cases h13 : na < 1000000000
  case neg =>
    have hb : rightB y mo d h mi s na a = false := by
      unfold rightB
      rw [decide_eq_false h13]
      simp
    rw [hb]; exact Right_13 y mo d h mi s na a w h0 h1 h2 h3 h4 h5 h6 h7 h8 h9 h10 h11 h12 h13
  by_cases h14 : -1440 < a
  case neg =>
    have hb : rightB y mo d h mi s na a = false := by
      unfold rightB
      rw [decide_eq_false h14]
      simp
    rw [hb]; exact Right_14 y mo d h mi s na a w h0 h1 h2 h3 h4 h5 h6 h7 h8 h9 h10 h11 h12 h13 h14
  by_cases h15 : a < 1440
  case neg =>
    have hb : rightB y mo d h mi s na a = false := by
      unfold rightB
      rw [decide_eq_false h15]
      simp
    rw [hb]; exact Right_15 y mo d h mi s na a w h0 h1 h2 h3 h4 h5 h6 h7 h8 h9 h10 h11 h12 h13 h14 h15
  have hb : rightB y mo d h mi s na a = true := by
    unfold rightB
    simp only [decide_eq_true h0, decide_eq_true h1, decide_eq_true h2, decide_eq_true h3, decide_eq_true h4, decide_eq_true h5, decide_eq_true h6, decide_eq_true h7, decide_eq_true h8, decide_eq_true h9, decide_eq_true h10, decide_eq_true h11, decide_eq_true h12, decide_eq_true h13, decide_eq_true h14, decide_eq_true h15, Bool.and_self]
  rw [hb]; exact Right_16 y mo d h mi s na a w h0 h1 h2 h3 h4 h5 h6 h7 h8 h9 h10 h11 h12 h13 h14 h15
end

def spec_Clock_Right.f (a0_0 : Int) (a0_1 : Int) (a0_2 : Int) (a0_3 : Int) (a0_4 : Int) (a0_5 : Int) (a0_6 : Int) (a0_7 : Int) : Option Bool := some (rightB a0_0 a0_1 a0_2 a0_3 a0_4 a0_5 a0_6 a0_7)
theorem spec_Clock_Right.calls (a0_0 : Int) (a0_1 : Int) (a0_2 : Int) (a0_3 : Int) (a0_4 : Int) (a0_5 : Int) (a0_6 : Int) (a0_7 : Int) (r : Bool) (w : World) (h : spec_Clock_Right.f a0_0 a0_1 a0_2 a0_3 a0_4 a0_5 a0_6 a0_7 = some r) :
    Calls Try.prog 53 #[.agg #[.int .i64 a0_0, .int .i64 a0_1, .int .i64 a0_2, .int .i64 a0_3, .int .i64 a0_4, .int .i64 a0_5, .int .i64 a0_6, .int .i64 a0_7]] w fun e w' => e = .returned (.bool r) ∧ Below w.heap.size w w' := by
  obtain rfl := Option.some.inj h
  exact Right_any a0_0 a0_1 a0_2 a0_3 a0_4 a0_5 a0_6 a0_7 w

/-! ### laws_right: function 30 -/
def laws_right.f (a0_0 : Int) (a0_1 : Int) (a0_2 : Int) (a0_3 : Int) (a0_4 : Int) (a0_5 : Int) (a0_6 : Int) (a0_7 : Int) : Option (Int × Int × Int × Int × Int × Int × Int × Int × Bool) := (spec_Clock_Right.f a0_0 a0_1 a0_2 a0_3 a0_4 a0_5 a0_6 a0_7).bind fun t116 => (some (a0_0, a0_1, a0_2, a0_3, a0_4, a0_5, a0_6, a0_7, t116))
set_option maxHeartbeats 8000000 in
set_option maxRecDepth 100000 in
theorem laws_right.calls (a0_0 : Int) (a0_1 : Int) (a0_2 : Int) (a0_3 : Int) (a0_4 : Int) (a0_5 : Int) (a0_6 : Int) (a0_7 : Int) (r1 : Int) (r2 : Int) (r3 : Int) (r4 : Int) (r5 : Int) (r6 : Int) (r7 : Int) (r8 : Int) (r9 : Bool) (w : World) (h : laws_right.f a0_0 a0_1 a0_2 a0_3 a0_4 a0_5 a0_6 a0_7 = some (r1, r2, r3, r4, r5, r6, r7, r8, r9)) :
    Calls Try.prog 30 #[.agg #[.int .i64 a0_0, .int .i64 a0_1, .int .i64 a0_2, .int .i64 a0_3, .int .i64 a0_4, .int .i64 a0_5, .int .i64 a0_6, .int .i64 a0_7]] w fun e w' => e = .returned (.tuple #[.agg #[.int .i64 r1, .int .i64 r2, .int .i64 r3, .int .i64 r4, .int .i64 r5, .int .i64 r6, .int .i64 r7, .int .i64 r8], .bool r9]) ∧ Below w.heap.size w w' := by
  have hu47 := Try.underlying47
  have hu44 := Try.underlying44
  have HB := Aside0.mk (Below.refl w.heap.size w)
  have H : ((spec_Clock_Right.f a0_0 a0_1 a0_2 a0_3 a0_4 a0_5 a0_6 a0_7).bind fun t116 => (some (a0_0, a0_1, a0_2, a0_3, a0_4, a0_5, a0_6, a0_7, t116))) = some (r1, r2, r3, r4, r5, r6, r7, r8, r9) := h
  clear h
  replace H := Option.bind_eq_some_iff.mp H
  obtain ⟨t116, A20, H⟩ := H
  replace H : (some (a0_0, a0_1, a0_2, a0_3, a0_4, a0_5, a0_6, a0_7, t116)) = some (r1, r2, r3, r4, r5, r6, r7, r8, r9) := H
  have A2 := Aside0.mk A20
  clear A20
  simp only [Option.some.injEq, Prod.mk.injEq] at H
  obtain ⟨rfl, rfl, rfl, rfl, rfl, rfl, rfl, rfl, rfl⟩ := H
  go_enter Try.func30, Try.ntmps30
  try go_wp2_with (first | ((with_reducible refine gate_dst (N := 1) rfl ?_); refine box_event ?hg (N := 1) ?hd (cs := #[.int .i64 a0_0, .int .i64 a0_1, .int .i64 a0_2, .int .i64 a0_3, .int .i64 a0_4, .int .i64 a0_5, .int .i64 a0_6, .int .i64 a0_7]) (t := 47) ?hr ?_; (case hd => rfl); (case hg => rfl); (case hr => first | (go_simp; done) | (go_simp; rfl)); intro gb113 hg w3 hbox hb; have n0_ := Aside0.mk (below_step (by repeat (first | (with_reducible first | exact HB.out | apply below_alloc | apply pw_below_drewN | apply below_drew1) | exact HB.out)) hb); have n1_ := Aside0.mk (hbox); have n2_ := Aside0.mk ((by rw [hg]; exact (below_size (by repeat (first | (with_reducible first | exact HB.out | apply below_alloc | apply pw_below_drewN | apply below_drew1) | exact HB.out))) : w.heap.size ≤ gb113)); have n3_ := Aside0.mk ((by rw [hg]; exact (below_size (by repeat (first | (with_reducible first | exact HB.out | apply below_alloc | apply pw_below_drewN | apply below_drew1) | exact HB.out))) : w.heap.size ≤ gb113)); clear HB; have HB := n0_; have BK113 := n1_; have GW113 := n2_; have GE113 := n3_; clear n0_ n1_ n2_ n3_; clear hb hbox hg) | ((with_reducible refine gate_dst (N := 2) rfl ?_); refine box_event ?hg (N := 2) ?hd (cs := #[.int .i64 0, .int .i64 0, .int .i64 0, .int .i64 0, .int .i64 0, .int .i64 0, .int .i64 0, .int .i64 0]) (t := 44) ?hr ?_; (case hd => rfl); (case hg => rfl); (case hr => first | (go_simp; done) | (go_simp; rfl)); intro gb114 hg w4 hbox hb; have n0_ := Aside0.mk (blk_below (g := gb113) (o := .cells #[.int .i64 a0_0, .int .i64 a0_1, .int .i64 a0_2, .int .i64 a0_3, .int .i64 a0_4, .int .i64 a0_5, .int .i64 a0_6, .int .i64 a0_7] 47 (0, 0)) (by (with_reducible repeat (first | refine blk_drewN ?_ _ | refine blk_drew ?_ | refine blk_alloc ?_ _)); exact BK113.out) hb); have n1_ := Aside0.mk (below_step (by repeat (first | (with_reducible first | exact HB.out | apply below_alloc | apply pw_below_drewN | apply below_drew1 | refine below_set ?_ GE113.out) | exact HB.out)) hb); have n2_ := Aside0.mk (hbox); have n3_ := Aside0.mk ((by rw [hg]; exact (below_size (by repeat (first | (with_reducible first | exact HB.out | apply below_alloc | apply pw_below_drewN | apply below_drew1 | refine below_set ?_ GE113.out) | exact HB.out))) : w.heap.size ≤ gb114)); have n4_ := Aside0.mk ((by rw [hg]; exact (below_size (by repeat (first | (with_reducible first | exact HB.out | apply below_alloc | apply pw_below_drewN | apply below_drew1 | refine below_set ?_ GE113.out) | exact HB.out))) : w.heap.size ≤ gb114)); have n5_ := Aside0.mk ((by rw [hg]; exact Nat.ne_of_lt (blk_lt (g := gb113) (o := .cells #[.int .i64 a0_0, .int .i64 a0_1, .int .i64 a0_2, .int .i64 a0_3, .int .i64 a0_4, .int .i64 a0_5, .int .i64 a0_6, .int .i64 a0_7] 47 (0, 0)) (by (with_reducible repeat (first | refine blk_drewN ?_ _ | refine blk_drew ?_ | refine blk_alloc ?_ _)); exact BK113.out)) : gb113 ≠ gb114)); have n6_ := Aside0.mk ((by rw [hg]; exact Nat.ne_of_gt (blk_lt (g := gb113) (o := .cells #[.int .i64 a0_0, .int .i64 a0_1, .int .i64 a0_2, .int .i64 a0_3, .int .i64 a0_4, .int .i64 a0_5, .int .i64 a0_6, .int .i64 a0_7] 47 (0, 0)) (by (with_reducible repeat (first | refine blk_drewN ?_ _ | refine blk_drew ?_ | refine blk_alloc ?_ _)); exact BK113.out)) : gb114 ≠ gb113)); clear BK113; clear HB; have BK113 := n0_; have HB := n1_; have BK114 := n2_; have GW114 := n3_; have GE114 := n4_; have NB113_114 := n5_; have NB114_113 := n6_; clear n0_ n1_ n2_ n3_ n4_ n5_ n6_; clear hb hbox hg; have hnb5 := NB113_114.out; have hnc5 := NB114_113.out; have hcz6_0 : w4.cell? ⟨gb113, 0, none⟩ = some (.int .i64 a0_0) := (blk_cell BK113.out 0).trans rfl; have hcz6_1 : w4.cell? ⟨gb113, 1, none⟩ = some (.int .i64 a0_1) := (blk_cell BK113.out 1).trans rfl; have hcz6_2 : w4.cell? ⟨gb113, 2, none⟩ = some (.int .i64 a0_2) := (blk_cell BK113.out 2).trans rfl; have hcz6_3 : w4.cell? ⟨gb113, 3, none⟩ = some (.int .i64 a0_3) := (blk_cell BK113.out 3).trans rfl; have hcz6_4 : w4.cell? ⟨gb113, 4, none⟩ = some (.int .i64 a0_4) := (blk_cell BK113.out 4).trans rfl; have hcz6_5 : w4.cell? ⟨gb113, 5, none⟩ = some (.int .i64 a0_5) := (blk_cell BK113.out 5).trans rfl; have hcz6_6 : w4.cell? ⟨gb113, 6, none⟩ = some (.int .i64 a0_6) := (blk_cell BK113.out 6).trans rfl; have hcz6_7 : w4.cell? ⟨gb113, 7, none⟩ = some (.int .i64 a0_7) := (blk_cell BK113.out 7).trans rfl; have hfz6_0 := blk_frozen BK113.out 0; have hfz6_1 := blk_frozen BK113.out 1; have hfz6_2 := blk_frozen BK113.out 2; have hfz6_3 := blk_frozen BK113.out 3; have hfz6_4 := blk_frozen BK113.out 4; have hfz6_5 := blk_frozen BK113.out 5; have hfz6_6 := blk_frozen BK113.out 6; have hfz6_7 := blk_frozen BK113.out 7) | ((with_reducible refine gate_dst (N := 4) rfl ?_); refine box_event ?hg (N := 4) ?hd (cs := #[.int .i64 0, .int .i64 0, .int .i64 0, .int .i64 0, .int .i64 0, .int .i64 0, .int .i64 0, .int .i64 0]) (t := 44) ?hr ?_; (case hd => rfl); (case hg => rfl); (case hr => first | (go_simp; done) | (go_simp; rfl)); intro gb115 hg w7 hbox hb; have n0_ := Aside0.mk (blk_below (g := gb113) (o := .cells #[.int .i64 a0_0, .int .i64 a0_1, .int .i64 a0_2, .int .i64 a0_3, .int .i64 a0_4, .int .i64 a0_5, .int .i64 a0_6, .int .i64 a0_7] 47 (0, 0)) (by (with_reducible repeat (first | refine blk_drewN ?_ _ | refine blk_drew ?_ | refine blk_alloc ?_ _)); exact BK113.out) hb); have n1_ := Aside0.mk (blk_below (g := gb114) (o := .cells #[.int .i64 0, .int .i64 0, .int .i64 0, .int .i64 0, .int .i64 0, .int .i64 0, .int .i64 0, .int .i64 0] 44 (0, 0)) (by (with_reducible repeat (first | refine blk_drewN ?_ _ | refine blk_drew ?_ | refine blk_alloc ?_ _)); exact BK114.out) hb); have n2_ := Aside0.mk (below_step (by repeat (first | (with_reducible first | exact HB.out | apply below_alloc | apply pw_below_drewN | apply below_drew1 | refine below_set ?_ GE113.out | refine below_set ?_ GE114.out) | exact HB.out)) hb); have n3_ := Aside0.mk (hbox); have n4_ := Aside0.mk ((by rw [hg]; exact (below_size (by repeat (first | (with_reducible first | exact HB.out | apply below_alloc | apply pw_below_drewN | apply below_drew1 | refine below_set ?_ GE113.out | refine below_set ?_ GE114.out) | exact HB.out))) : w.heap.size ≤ gb115)); have n5_ := Aside0.mk ((by rw [hg]; exact (below_size (by repeat (first | (with_reducible first | exact HB.out | apply below_alloc | apply pw_below_drewN | apply below_drew1 | refine below_set ?_ GE113.out | refine below_set ?_ GE114.out) | exact HB.out))) : w.heap.size ≤ gb115)); have n6_ := Aside0.mk ((by rw [hg]; exact Nat.ne_of_lt (blk_lt (g := gb113) (o := .cells #[.int .i64 a0_0, .int .i64 a0_1, .int .i64 a0_2, .int .i64 a0_3, .int .i64 a0_4, .int .i64 a0_5, .int .i64 a0_6, .int .i64 a0_7] 47 (0, 0)) (by (with_reducible repeat (first | refine blk_drewN ?_ _ | refine blk_drew ?_ | refine blk_alloc ?_ _)); exact BK113.out)) : gb113 ≠ gb115)); have n7_ := Aside0.mk ((by rw [hg]; exact Nat.ne_of_gt (blk_lt (g := gb113) (o := .cells #[.int .i64 a0_0, .int .i64 a0_1, .int .i64 a0_2, .int .i64 a0_3, .int .i64 a0_4, .int .i64 a0_5, .int .i64 a0_6, .int .i64 a0_7] 47 (0, 0)) (by (with_reducible repeat (first | refine blk_drewN ?_ _ | refine blk_drew ?_ | refine blk_alloc ?_ _)); exact BK113.out)) : gb115 ≠ gb113)); have n8_ := Aside0.mk ((by rw [hg]; exact Nat.ne_of_lt (blk_lt (g := gb114) (o := .cells #[.int .i64 0, .int .i64 0, .int .i64 0, .int .i64 0, .int .i64 0, .int .i64 0, .int .i64 0, .int .i64 0] 44 (0, 0)) (by (with_reducible repeat (first | refine blk_drewN ?_ _ | refine blk_drew ?_ | refine blk_alloc ?_ _)); exact BK114.out)) : gb114 ≠ gb115)); have n9_ := Aside0.mk ((by rw [hg]; exact Nat.ne_of_gt (blk_lt (g := gb114) (o := .cells #[.int .i64 0, .int .i64 0, .int .i64 0, .int .i64 0, .int .i64 0, .int .i64 0, .int .i64 0, .int .i64 0] 44 (0, 0)) (by (with_reducible repeat (first | refine blk_drewN ?_ _ | refine blk_drew ?_ | refine blk_alloc ?_ _)); exact BK114.out)) : gb115 ≠ gb114)); clear BK113; clear BK114; clear HB; have BK113 := n0_; have BK114 := n1_; have HB := n2_; have BK115 := n3_; have GW115 := n4_; have GE115 := n5_; have NB113_115 := n6_; have NB115_113 := n7_; have NB114_115 := n8_; have NB115_114 := n9_; clear n0_ n1_ n2_ n3_ n4_ n5_ n6_ n7_ n8_ n9_; clear hb hbox hg; have hnb8 := NB115_113.out; have hnc8 := NB113_115.out; have hnb9 := NB115_114.out; have hnc9 := NB114_115.out; have hcz10_0 : w7.cell? ⟨gb115, 0, none⟩ = some (.int .i64 0) := (blk_cell BK115.out 0).trans rfl; have hcz10_1 : w7.cell? ⟨gb115, 1, none⟩ = some (.int .i64 0) := (blk_cell BK115.out 1).trans rfl; have hcz10_2 : w7.cell? ⟨gb115, 2, none⟩ = some (.int .i64 0) := (blk_cell BK115.out 2).trans rfl; have hcz10_3 : w7.cell? ⟨gb115, 3, none⟩ = some (.int .i64 0) := (blk_cell BK115.out 3).trans rfl; have hcz10_4 : w7.cell? ⟨gb115, 4, none⟩ = some (.int .i64 0) := (blk_cell BK115.out 4).trans rfl; have hcz10_5 : w7.cell? ⟨gb115, 5, none⟩ = some (.int .i64 0) := (blk_cell BK115.out 5).trans rfl; have hcz10_6 : w7.cell? ⟨gb115, 6, none⟩ = some (.int .i64 0) := (blk_cell BK115.out 6).trans rfl; have hcz10_7 : w7.cell? ⟨gb115, 7, none⟩ = some (.int .i64 0) := (blk_cell BK115.out 7).trans rfl; have hfz10_0 := blk_frozen BK115.out 0; have hfz10_1 := blk_frozen BK115.out 1; have hfz10_2 := blk_frozen BK115.out 2; have hfz10_3 := blk_frozen BK115.out 3; have hfz10_4 := blk_frozen BK115.out 4; have hfz10_5 := blk_frozen BK115.out 5; have hfz10_6 := blk_frozen BK115.out 6; have hfz10_7 := blk_frozen BK115.out 7))
  have n0_ : Aside0 (((((((((w7.setCell ⟨gb115, 0, none⟩ (.int .i64 a0_0)).setCell ⟨gb115, 1, none⟩ (.int .i64 a0_1)).setCell ⟨gb115, 2, none⟩ (.int .i64 a0_2)).setCell ⟨gb115, 3, none⟩ (.int .i64 a0_3)).setCell ⟨gb115, 4, none⟩ (.int .i64 a0_4)).setCell ⟨gb115, 5, none⟩ (.int .i64 a0_5)).setCell ⟨gb115, 6, none⟩ (.int .i64 a0_6)).setCell ⟨gb115, 7, none⟩ (.int .i64 a0_7)).heap[gb113]? = some (.cells #[.int .i64 a0_0, .int .i64 a0_1, .int .i64 a0_2, .int .i64 a0_3, .int .i64 a0_4, .int .i64 a0_5, .int .i64 a0_6, .int .i64 a0_7] 47 (0, 0))) := ⟨by (with_reducible repeat (first | refine blk_drewN ?_ _ | refine blk_drew ?_ | refine blk_alloc ?_ _)); refine blk_far ?_ NB113_115.out _; (with_reducible repeat (first | refine blk_drewN ?_ _ | refine blk_drew ?_ | refine blk_alloc ?_ _)); refine blk_far ?_ NB113_115.out _; (with_reducible repeat (first | refine blk_drewN ?_ _ | refine blk_drew ?_ | refine blk_alloc ?_ _)); refine blk_far ?_ NB113_115.out _; (with_reducible repeat (first | refine blk_drewN ?_ _ | refine blk_drew ?_ | refine blk_alloc ?_ _)); refine blk_far ?_ NB113_115.out _; (with_reducible repeat (first | refine blk_drewN ?_ _ | refine blk_drew ?_ | refine blk_alloc ?_ _)); refine blk_far ?_ NB113_115.out _; (with_reducible repeat (first | refine blk_drewN ?_ _ | refine blk_drew ?_ | refine blk_alloc ?_ _)); refine blk_far ?_ NB113_115.out _; (with_reducible repeat (first | refine blk_drewN ?_ _ | refine blk_drew ?_ | refine blk_alloc ?_ _)); refine blk_far ?_ NB113_115.out _; (with_reducible repeat (first | refine blk_drewN ?_ _ | refine blk_drew ?_ | refine blk_alloc ?_ _)); refine blk_far ?_ NB113_115.out _; (with_reducible repeat (first | refine blk_drewN ?_ _ | refine blk_drew ?_ | refine blk_alloc ?_ _)); exact BK113.out⟩
  have n1_ : Aside0 (((((((((w7.setCell ⟨gb115, 0, none⟩ (.int .i64 a0_0)).setCell ⟨gb115, 1, none⟩ (.int .i64 a0_1)).setCell ⟨gb115, 2, none⟩ (.int .i64 a0_2)).setCell ⟨gb115, 3, none⟩ (.int .i64 a0_3)).setCell ⟨gb115, 4, none⟩ (.int .i64 a0_4)).setCell ⟨gb115, 5, none⟩ (.int .i64 a0_5)).setCell ⟨gb115, 6, none⟩ (.int .i64 a0_6)).setCell ⟨gb115, 7, none⟩ (.int .i64 a0_7)).heap[gb114]? = some (.cells #[.int .i64 0, .int .i64 0, .int .i64 0, .int .i64 0, .int .i64 0, .int .i64 0, .int .i64 0, .int .i64 0] 44 (0, 0))) := ⟨by (with_reducible repeat (first | refine blk_drewN ?_ _ | refine blk_drew ?_ | refine blk_alloc ?_ _)); refine blk_far ?_ NB114_115.out _; (with_reducible repeat (first | refine blk_drewN ?_ _ | refine blk_drew ?_ | refine blk_alloc ?_ _)); refine blk_far ?_ NB114_115.out _; (with_reducible repeat (first | refine blk_drewN ?_ _ | refine blk_drew ?_ | refine blk_alloc ?_ _)); refine blk_far ?_ NB114_115.out _; (with_reducible repeat (first | refine blk_drewN ?_ _ | refine blk_drew ?_ | refine blk_alloc ?_ _)); refine blk_far ?_ NB114_115.out _; (with_reducible repeat (first | refine blk_drewN ?_ _ | refine blk_drew ?_ | refine blk_alloc ?_ _)); refine blk_far ?_ NB114_115.out _; (with_reducible repeat (first | refine blk_drewN ?_ _ | refine blk_drew ?_ | refine blk_alloc ?_ _)); refine blk_far ?_ NB114_115.out _; (with_reducible repeat (first | refine blk_drewN ?_ _ | refine blk_drew ?_ | refine blk_alloc ?_ _)); refine blk_far ?_ NB114_115.out _; (with_reducible repeat (first | refine blk_drewN ?_ _ | refine blk_drew ?_ | refine blk_alloc ?_ _)); refine blk_far ?_ NB114_115.out _; (with_reducible repeat (first | refine blk_drewN ?_ _ | refine blk_drew ?_ | refine blk_alloc ?_ _)); exact BK114.out⟩
  have n2_ : Aside0 (((((((((w7.setCell ⟨gb115, 0, none⟩ (.int .i64 a0_0)).setCell ⟨gb115, 1, none⟩ (.int .i64 a0_1)).setCell ⟨gb115, 2, none⟩ (.int .i64 a0_2)).setCell ⟨gb115, 3, none⟩ (.int .i64 a0_3)).setCell ⟨gb115, 4, none⟩ (.int .i64 a0_4)).setCell ⟨gb115, 5, none⟩ (.int .i64 a0_5)).setCell ⟨gb115, 6, none⟩ (.int .i64 a0_6)).setCell ⟨gb115, 7, none⟩ (.int .i64 a0_7)).heap[gb115]? = some (.cells #[.int .i64 a0_0, .int .i64 a0_1, .int .i64 a0_2, .int .i64 a0_3, .int .i64 a0_4, .int .i64 a0_5, .int .i64 a0_6, .int .i64 a0_7] 44 (0, 0))) := ⟨by (with_reducible repeat (first | refine blk_drewN ?_ _ | refine blk_drew ?_ | refine blk_alloc ?_ _)); refine blk_put (cs := #[.int .i64 a0_0, .int .i64 a0_1, .int .i64 a0_2, .int .i64 a0_3, .int .i64 a0_4, .int .i64 a0_5, .int .i64 a0_6, .int .i64 0]) ?_ 7 _ rfl; (with_reducible repeat (first | refine blk_drewN ?_ _ | refine blk_drew ?_ | refine blk_alloc ?_ _)); refine blk_put (cs := #[.int .i64 a0_0, .int .i64 a0_1, .int .i64 a0_2, .int .i64 a0_3, .int .i64 a0_4, .int .i64 a0_5, .int .i64 0, .int .i64 0]) ?_ 6 _ rfl; (with_reducible repeat (first | refine blk_drewN ?_ _ | refine blk_drew ?_ | refine blk_alloc ?_ _)); refine blk_put (cs := #[.int .i64 a0_0, .int .i64 a0_1, .int .i64 a0_2, .int .i64 a0_3, .int .i64 a0_4, .int .i64 0, .int .i64 0, .int .i64 0]) ?_ 5 _ rfl; (with_reducible repeat (first | refine blk_drewN ?_ _ | refine blk_drew ?_ | refine blk_alloc ?_ _)); refine blk_put (cs := #[.int .i64 a0_0, .int .i64 a0_1, .int .i64 a0_2, .int .i64 a0_3, .int .i64 0, .int .i64 0, .int .i64 0, .int .i64 0]) ?_ 4 _ rfl; (with_reducible repeat (first | refine blk_drewN ?_ _ | refine blk_drew ?_ | refine blk_alloc ?_ _)); refine blk_put (cs := #[.int .i64 a0_0, .int .i64 a0_1, .int .i64 a0_2, .int .i64 0, .int .i64 0, .int .i64 0, .int .i64 0, .int .i64 0]) ?_ 3 _ rfl; (with_reducible repeat (first | refine blk_drewN ?_ _ | refine blk_drew ?_ | refine blk_alloc ?_ _)); refine blk_put (cs := #[.int .i64 a0_0, .int .i64 a0_1, .int .i64 0, .int .i64 0, .int .i64 0, .int .i64 0, .int .i64 0, .int .i64 0]) ?_ 2 _ rfl; (with_reducible repeat (first | refine blk_drewN ?_ _ | refine blk_drew ?_ | refine blk_alloc ?_ _)); refine blk_put (cs := #[.int .i64 a0_0, .int .i64 0, .int .i64 0, .int .i64 0, .int .i64 0, .int .i64 0, .int .i64 0, .int .i64 0]) ?_ 1 _ rfl; (with_reducible repeat (first | refine blk_drewN ?_ _ | refine blk_drew ?_ | refine blk_alloc ?_ _)); refine blk_put (cs := #[.int .i64 0, .int .i64 0, .int .i64 0, .int .i64 0, .int .i64 0, .int .i64 0, .int .i64 0, .int .i64 0]) ?_ 0 _ rfl; (with_reducible repeat (first | refine blk_drewN ?_ _ | refine blk_drew ?_ | refine blk_alloc ?_ _)); exact BK115.out⟩
  have n3_ : Aside0 (Below w.heap.size w ((((((((w7.setCell ⟨gb115, 0, none⟩ (.int .i64 a0_0)).setCell ⟨gb115, 1, none⟩ (.int .i64 a0_1)).setCell ⟨gb115, 2, none⟩ (.int .i64 a0_2)).setCell ⟨gb115, 3, none⟩ (.int .i64 a0_3)).setCell ⟨gb115, 4, none⟩ (.int .i64 a0_4)).setCell ⟨gb115, 5, none⟩ (.int .i64 a0_5)).setCell ⟨gb115, 6, none⟩ (.int .i64 a0_6)).setCell ⟨gb115, 7, none⟩ (.int .i64 a0_7))) := ⟨by repeat (first | (with_reducible first | exact HB.out | apply below_alloc | apply pw_below_drewN | apply below_drew1 | refine below_set ?_ GE113.out | refine below_set ?_ GE114.out | refine below_set ?_ GE115.out) | exact HB.out)⟩
  (try clear BK113)
  (try clear BK114)
  (try clear BK115)
  (try clear HB)
  generalize ((((((((w7.setCell ⟨gb115, 0, none⟩ (.int .i64 a0_0)).setCell ⟨gb115, 1, none⟩ (.int .i64 a0_1)).setCell ⟨gb115, 2, none⟩ (.int .i64 a0_2)).setCell ⟨gb115, 3, none⟩ (.int .i64 a0_3)).setCell ⟨gb115, 4, none⟩ (.int .i64 a0_4)).setCell ⟨gb115, 5, none⟩ (.int .i64 a0_5)).setCell ⟨gb115, 6, none⟩ (.int .i64 a0_6)).setCell ⟨gb115, 7, none⟩ (.int .i64 a0_7)) = w11 at n0_ n1_ n2_ n3_ ⊢
  have BK113 := n0_
  have BK114 := n1_
  have BK115 := n2_
  have HB := n3_
  clear n0_ n1_ n2_ n3_
  have n0_ := Aside0.mk (blk_drew BK113.out)
  have n1_ := Aside0.mk (blk_drew BK114.out)
  have n2_ := Aside0.mk (blk_drew BK115.out)
  have n3_ := Aside0.mk (below_drew1 HB.out)
  clear BK113
  clear BK114
  clear BK115
  clear HB
  have BK113 := n0_
  have BK114 := n1_
  have BK115 := n2_
  have HB := n3_
  clear n0_ n1_ n2_ n3_
  refine start_ (n := 5) (S := fun w' => w'.cell? ⟨gb115, 0, none⟩ = some (.int .i64 a0_0) ∧ w'.cell? ⟨gb115, 1, none⟩ = some (.int .i64 a0_1) ∧ w'.cell? ⟨gb115, 2, none⟩ = some (.int .i64 a0_2) ∧ w'.cell? ⟨gb115, 3, none⟩ = some (.int .i64 a0_3) ∧ w'.cell? ⟨gb115, 4, none⟩ = some (.int .i64 a0_4) ∧ w'.cell? ⟨gb115, 5, none⟩ = some (.int .i64 a0_5) ∧ w'.cell? ⟨gb115, 6, none⟩ = some (.int .i64 a0_6) ∧ w'.cell? ⟨gb115, 7, none⟩ = some (.int .i64 a0_7)) (ds := []) #[false, false, false, false, false] (by kernel_rfl) rfl rfl ⟨(blk_cell BK115.out 0).trans rfl, (blk_cell BK115.out 1).trans rfl, (blk_cell BK115.out 2).trans rfl, (blk_cell BK115.out 3).trans rfl, (blk_cell BK115.out 4).trans rfl, (blk_cell BK115.out 5).trans rfl, (blk_cell BK115.out 6).trans rfl, (blk_cell BK115.out 7).trans rfl⟩ (fun hHeld => ?_)
  generalize w11.drew = w12 at BK113 BK114 BK115 HB hHeld ⊢
  refine take_ (i := 0) (N := some 22) (v := ?_) (a' := ?_) #[true, false, false, false, false] rfl rfl (by kernel_rfl) (fun _ _ _ h => h) (Or.inl ⟨by rfl, ?_⟩) hHeld ?_ ?_
  rotate_left
  · rintro w' ⟨s0, s1, s2, s3, s4, s5, s6, s7⟩
    go_simp
    with_reducible rfl
  rotate_left
  · simp only [Act.put, List.setIfInBounds_toArray, List.set_cons_zero, List.set_cons_succ, i64_w, i32_w]
    rfl
  refine take_ (i := 1) (N := some 23) (v := ?_) (a' := ?_) #[true, true, false, false, false] rfl rfl (by kernel_rfl) (fun _ _ _ h => h) (Or.inl ⟨by rfl, ?_⟩) hHeld ?_ ?_
  rotate_left
  · rintro w' ⟨s0, s1, s2, s3, s4, s5, s6, s7⟩
    go_simp
    with_reducible rfl
  rotate_left
  · simp only [Act.put, List.setIfInBounds_toArray, List.set_cons_zero, List.set_cons_succ, i64_w, i32_w]
    rfl
  refine one_ (i := 2) (N := some 24) #[true, true, true, false, false] rfl rfl (by kernel_rfl) (by decide) (fun K hK => ?_)
  refine goes_ Try.func53 (by kernel_rfl) rfl #[.agg #[.int .i64 a0_0, .int .i64 a0_1, .int .i64 a0_2, .int .i64 a0_3, .int .i64 a0_4, .int .i64 a0_5, .int .i64 a0_6, .int .i64 a0_7]] (by rfl) rfl rfl (by (try simp only [List.map_toArray, List.map_cons, List.map_nil]); first | done | rfl | (simp only [List.length_drop, List.length_take]; rfl)) ?_
  with_reducible refine (spec_Clock_Right.calls a0_0 a0_1 a0_2 a0_3 a0_4 a0_5 a0_6 a0_7 t116 _ A2.out).mono ?_
  rintro e w13 ⟨rfl, hb⟩
  refine ⟨_, rfl, ?_⟩
  have n0_ := Aside0.mk (blk_below (g := gb113) (o := .cells #[.int .i64 a0_0, .int .i64 a0_1, .int .i64 a0_2, .int .i64 a0_3, .int .i64 a0_4, .int .i64 a0_5, .int .i64 a0_6, .int .i64 a0_7] 47 (0, 0)) (by (with_reducible repeat (first | refine blk_drewN ?_ _ | refine blk_drew ?_ | refine blk_alloc ?_ _)); exact BK113.out) hb)
  have n1_ := Aside0.mk (blk_below (g := gb114) (o := .cells #[.int .i64 0, .int .i64 0, .int .i64 0, .int .i64 0, .int .i64 0, .int .i64 0, .int .i64 0, .int .i64 0] 44 (0, 0)) (by (with_reducible repeat (first | refine blk_drewN ?_ _ | refine blk_drew ?_ | refine blk_alloc ?_ _)); exact BK114.out) hb)
  have n2_ := Aside0.mk (blk_below (g := gb115) (o := .cells #[.int .i64 a0_0, .int .i64 a0_1, .int .i64 a0_2, .int .i64 a0_3, .int .i64 a0_4, .int .i64 a0_5, .int .i64 a0_6, .int .i64 a0_7] 44 (0, 0)) (by (with_reducible repeat (first | refine blk_drewN ?_ _ | refine blk_drew ?_ | refine blk_alloc ?_ _)); exact BK115.out) hb)
  have n3_ := Aside0.mk (below_step (by repeat (first | (with_reducible first | exact HB.out | apply below_alloc | apply pw_below_drewN | apply below_drew1 | refine below_set ?_ GE113.out | refine below_set ?_ GE114.out | refine below_set ?_ GE115.out) | exact HB.out)) hb)
  clear BK113
  clear BK114
  clear BK115
  clear HB
  have BK113 := n0_
  have BK114 := n1_
  have BK115 := n2_
  have HB := n3_
  clear n0_ n1_ n2_ n3_
  (try clear hb)
  (try clear hb2)
  (try clear hk)
  (try clear hi)
  refine hK.out _ _ ⟨(blk_cell BK115.out 0).trans rfl, (blk_cell BK115.out 1).trans rfl, (blk_cell BK115.out 2).trans rfl, (blk_cell BK115.out 3).trans rfl, (blk_cell BK115.out 4).trans rfl, (blk_cell BK115.out 5).trans rfl, (blk_cell BK115.out 6).trans rfl, (blk_cell BK115.out 7).trans rfl⟩ (fun hHeld => ?_)
  clear hK K
  refine norm_ (a' := ?_) ?_ ?_
  rotate_left
  · show Act.put _ (some 24) _ = _
    simp only [Act.put, List.setIfInBounds_toArray, List.set_cons_zero, List.set_cons_succ, i64_w, i32_w]
    rfl
  refine one_ (i := 3) (N := none) #[true, true, true, true, false] rfl rfl (by kernel_rfl) (by decide) (fun K hK => ?_)
  have hs14 : w13.cell? ⟨gb114, 0, none⟩ = some (.int .i64 0) := (blk_cell BK114.out 0).trans rfl
  have hfs14 := blk_frozen BK114.out 0
  have hns14_0 := NB113_114.out
  have hns14_2 := NB115_114.out
  have hms14_0 := NB114_113.out
  have hms14_2 := NB114_115.out
  have hs15 : w13.cell? ⟨gb114, 1, none⟩ = some (.int .i64 0) := (blk_cell BK114.out 1).trans rfl
  have hfs15 := blk_frozen BK114.out 1
  have hns15_0 := NB113_114.out
  have hns15_2 := NB115_114.out
  have hms15_0 := NB114_113.out
  have hms15_2 := NB114_115.out
  have hs16 : w13.cell? ⟨gb114, 2, none⟩ = some (.int .i64 0) := (blk_cell BK114.out 2).trans rfl
  have hfs16 := blk_frozen BK114.out 2
  have hns16_0 := NB113_114.out
  have hns16_2 := NB115_114.out
  have hms16_0 := NB114_113.out
  have hms16_2 := NB114_115.out
  have hs17 : w13.cell? ⟨gb114, 3, none⟩ = some (.int .i64 0) := (blk_cell BK114.out 3).trans rfl
  have hfs17 := blk_frozen BK114.out 3
  have hns17_0 := NB113_114.out
  have hns17_2 := NB115_114.out
  have hms17_0 := NB114_113.out
  have hms17_2 := NB114_115.out
  have hs18 : w13.cell? ⟨gb114, 4, none⟩ = some (.int .i64 0) := (blk_cell BK114.out 4).trans rfl
  have hfs18 := blk_frozen BK114.out 4
  have hns18_0 := NB113_114.out
  have hns18_2 := NB115_114.out
  have hms18_0 := NB114_113.out
  have hms18_2 := NB114_115.out
  have hs19 : w13.cell? ⟨gb114, 5, none⟩ = some (.int .i64 0) := (blk_cell BK114.out 5).trans rfl
  have hfs19 := blk_frozen BK114.out 5
  have hns19_0 := NB113_114.out
  have hns19_2 := NB115_114.out
  have hms19_0 := NB114_113.out
  have hms19_2 := NB114_115.out
  have hs20 : w13.cell? ⟨gb114, 6, none⟩ = some (.int .i64 0) := (blk_cell BK114.out 6).trans rfl
  have hfs20 := blk_frozen BK114.out 6
  have hns20_0 := NB113_114.out
  have hns20_2 := NB115_114.out
  have hms20_0 := NB114_113.out
  have hms20_2 := NB114_115.out
  have hs21 : w13.cell? ⟨gb114, 7, none⟩ = some (.int .i64 0) := (blk_cell BK114.out 7).trans rfl
  have hfs21 := blk_frozen BK114.out 7
  have hns21_0 := NB113_114.out
  have hns21_2 := NB115_114.out
  have hms21_0 := NB114_113.out
  have hms21_2 := NB114_115.out
  refine skip_ (w1 := ?_) (by rfl) rfl ?_ ?_
  rotate_left
  · go_simp
    rfl
  refine hK.out _ _ ⟨((cell_far (p := ⟨gb114, _, none⟩) NB115_114.out _).trans (((cell_far (p := ⟨gb114, _, none⟩) NB115_114.out _).trans (((cell_far (p := ⟨gb114, _, none⟩) NB115_114.out _).trans (((cell_far (p := ⟨gb114, _, none⟩) NB115_114.out _).trans (((cell_far (p := ⟨gb114, _, none⟩) NB115_114.out _).trans (((cell_far (p := ⟨gb114, _, none⟩) NB115_114.out _).trans (((cell_far (p := ⟨gb114, _, none⟩) NB115_114.out _).trans (((cell_far (p := ⟨gb114, _, none⟩) NB115_114.out _).trans (hHeld.1)))))))))))))))), ((cell_far (p := ⟨gb114, _, none⟩) NB115_114.out _).trans (((cell_far (p := ⟨gb114, _, none⟩) NB115_114.out _).trans (((cell_far (p := ⟨gb114, _, none⟩) NB115_114.out _).trans (((cell_far (p := ⟨gb114, _, none⟩) NB115_114.out _).trans (((cell_far (p := ⟨gb114, _, none⟩) NB115_114.out _).trans (((cell_far (p := ⟨gb114, _, none⟩) NB115_114.out _).trans (((cell_far (p := ⟨gb114, _, none⟩) NB115_114.out _).trans (((cell_far (p := ⟨gb114, _, none⟩) NB115_114.out _).trans (hHeld.2.1)))))))))))))))), ((cell_far (p := ⟨gb114, _, none⟩) NB115_114.out _).trans (((cell_far (p := ⟨gb114, _, none⟩) NB115_114.out _).trans (((cell_far (p := ⟨gb114, _, none⟩) NB115_114.out _).trans (((cell_far (p := ⟨gb114, _, none⟩) NB115_114.out _).trans (((cell_far (p := ⟨gb114, _, none⟩) NB115_114.out _).trans (((cell_far (p := ⟨gb114, _, none⟩) NB115_114.out _).trans (((cell_far (p := ⟨gb114, _, none⟩) NB115_114.out _).trans (((cell_far (p := ⟨gb114, _, none⟩) NB115_114.out _).trans (hHeld.2.2.1)))))))))))))))), ((cell_far (p := ⟨gb114, _, none⟩) NB115_114.out _).trans (((cell_far (p := ⟨gb114, _, none⟩) NB115_114.out _).trans (((cell_far (p := ⟨gb114, _, none⟩) NB115_114.out _).trans (((cell_far (p := ⟨gb114, _, none⟩) NB115_114.out _).trans (((cell_far (p := ⟨gb114, _, none⟩) NB115_114.out _).trans (((cell_far (p := ⟨gb114, _, none⟩) NB115_114.out _).trans (((cell_far (p := ⟨gb114, _, none⟩) NB115_114.out _).trans (((cell_far (p := ⟨gb114, _, none⟩) NB115_114.out _).trans (hHeld.2.2.2.1)))))))))))))))), ((cell_far (p := ⟨gb114, _, none⟩) NB115_114.out _).trans (((cell_far (p := ⟨gb114, _, none⟩) NB115_114.out _).trans (((cell_far (p := ⟨gb114, _, none⟩) NB115_114.out _).trans (((cell_far (p := ⟨gb114, _, none⟩) NB115_114.out _).trans (((cell_far (p := ⟨gb114, _, none⟩) NB115_114.out _).trans (((cell_far (p := ⟨gb114, _, none⟩) NB115_114.out _).trans (((cell_far (p := ⟨gb114, _, none⟩) NB115_114.out _).trans (((cell_far (p := ⟨gb114, _, none⟩) NB115_114.out _).trans (hHeld.2.2.2.2.1)))))))))))))))), ((cell_far (p := ⟨gb114, _, none⟩) NB115_114.out _).trans (((cell_far (p := ⟨gb114, _, none⟩) NB115_114.out _).trans (((cell_far (p := ⟨gb114, _, none⟩) NB115_114.out _).trans (((cell_far (p := ⟨gb114, _, none⟩) NB115_114.out _).trans (((cell_far (p := ⟨gb114, _, none⟩) NB115_114.out _).trans (((cell_far (p := ⟨gb114, _, none⟩) NB115_114.out _).trans (((cell_far (p := ⟨gb114, _, none⟩) NB115_114.out _).trans (((cell_far (p := ⟨gb114, _, none⟩) NB115_114.out _).trans (hHeld.2.2.2.2.2.1)))))))))))))))), ((cell_far (p := ⟨gb114, _, none⟩) NB115_114.out _).trans (((cell_far (p := ⟨gb114, _, none⟩) NB115_114.out _).trans (((cell_far (p := ⟨gb114, _, none⟩) NB115_114.out _).trans (((cell_far (p := ⟨gb114, _, none⟩) NB115_114.out _).trans (((cell_far (p := ⟨gb114, _, none⟩) NB115_114.out _).trans (((cell_far (p := ⟨gb114, _, none⟩) NB115_114.out _).trans (((cell_far (p := ⟨gb114, _, none⟩) NB115_114.out _).trans (((cell_far (p := ⟨gb114, _, none⟩) NB115_114.out _).trans (hHeld.2.2.2.2.2.2.1)))))))))))))))), ((cell_far (p := ⟨gb114, _, none⟩) NB115_114.out _).trans (((cell_far (p := ⟨gb114, _, none⟩) NB115_114.out _).trans (((cell_far (p := ⟨gb114, _, none⟩) NB115_114.out _).trans (((cell_far (p := ⟨gb114, _, none⟩) NB115_114.out _).trans (((cell_far (p := ⟨gb114, _, none⟩) NB115_114.out _).trans (((cell_far (p := ⟨gb114, _, none⟩) NB115_114.out _).trans (((cell_far (p := ⟨gb114, _, none⟩) NB115_114.out _).trans (((cell_far (p := ⟨gb114, _, none⟩) NB115_114.out _).trans (hHeld.2.2.2.2.2.2.2))))))))))))))))⟩ (fun hHeld => ?_)
  clear hK K
  refine pure_ (i := 4) (N := some 3) (v := ?_) (a' := ?_) #[true, true, true, true, true] rfl rfl (by kernel_rfl) (fun _ _ _ h => h) (Or.inl ⟨by rfl, ?_⟩) ?_ ?_
  rotate_left
  · intro w'
    go_simp
    with_reducible rfl
  rotate_left
  · simp only [Act.put, List.setIfInBounds_toArray, List.set_cons_zero, List.set_cons_succ, i64_w, i32_w]
    rfl
  refine done_ (by kernel_rfl) ?_
  try go_wp2
  refine bodyPost_ret (results_ct rfl _ _ gb114 44 #[.int .i64 a0_0, .int .i64 a0_1, .int .i64 a0_2, .int .i64 a0_3, .int .i64 a0_4, .int .i64 a0_5, .int .i64 a0_6, .int .i64 a0_7] (0, 0) _ rfl (by (with_reducible repeat (first | refine blk_drewN ?_ _ | refine blk_drew ?_ | refine blk_alloc ?_ _)); refine blk_put (cs := #[.int .i64 a0_0, .int .i64 a0_1, .int .i64 a0_2, .int .i64 a0_3, .int .i64 a0_4, .int .i64 a0_5, .int .i64 a0_6, .int .i64 0]) ?_ 7 _ rfl; (with_reducible repeat (first | refine blk_drewN ?_ _ | refine blk_drew ?_ | refine blk_alloc ?_ _)); refine blk_put (cs := #[.int .i64 a0_0, .int .i64 a0_1, .int .i64 a0_2, .int .i64 a0_3, .int .i64 a0_4, .int .i64 a0_5, .int .i64 0, .int .i64 0]) ?_ 6 _ rfl; (with_reducible repeat (first | refine blk_drewN ?_ _ | refine blk_drew ?_ | refine blk_alloc ?_ _)); refine blk_put (cs := #[.int .i64 a0_0, .int .i64 a0_1, .int .i64 a0_2, .int .i64 a0_3, .int .i64 a0_4, .int .i64 0, .int .i64 0, .int .i64 0]) ?_ 5 _ rfl; (with_reducible repeat (first | refine blk_drewN ?_ _ | refine blk_drew ?_ | refine blk_alloc ?_ _)); refine blk_put (cs := #[.int .i64 a0_0, .int .i64 a0_1, .int .i64 a0_2, .int .i64 a0_3, .int .i64 0, .int .i64 0, .int .i64 0, .int .i64 0]) ?_ 4 _ rfl; (with_reducible repeat (first | refine blk_drewN ?_ _ | refine blk_drew ?_ | refine blk_alloc ?_ _)); refine blk_put (cs := #[.int .i64 a0_0, .int .i64 a0_1, .int .i64 a0_2, .int .i64 0, .int .i64 0, .int .i64 0, .int .i64 0, .int .i64 0]) ?_ 3 _ rfl; (with_reducible repeat (first | refine blk_drewN ?_ _ | refine blk_drew ?_ | refine blk_alloc ?_ _)); refine blk_put (cs := #[.int .i64 a0_0, .int .i64 a0_1, .int .i64 0, .int .i64 0, .int .i64 0, .int .i64 0, .int .i64 0, .int .i64 0]) ?_ 2 _ rfl; (with_reducible repeat (first | refine blk_drewN ?_ _ | refine blk_drew ?_ | refine blk_alloc ?_ _)); refine blk_put (cs := #[.int .i64 a0_0, .int .i64 0, .int .i64 0, .int .i64 0, .int .i64 0, .int .i64 0, .int .i64 0, .int .i64 0]) ?_ 1 _ rfl; (with_reducible repeat (first | refine blk_drewN ?_ _ | refine blk_drew ?_ | refine blk_alloc ?_ _)); refine blk_put (cs := #[.int .i64 0, .int .i64 0, .int .i64 0, .int .i64 0, .int .i64 0, .int .i64 0, .int .i64 0, .int .i64 0]) ?_ 0 _ rfl; (with_reducible repeat (first | refine blk_drewN ?_ _ | refine blk_drew ?_ | refine blk_alloc ?_ _)); exact BK114.out) Try.underlying44 rfl (by kernel_rfl)) rfl ?_
  exact ⟨by first | rfl | (simp [errW_none, errW_some] <;> rfl) | (simp [*, errW_none, errW_some] <;> rfl), by repeat (first | (with_reducible first | exact HB.out | apply below_alloc | apply pw_below_drewN | apply below_drew1 | refine below_set ?_ GE113.out | refine below_set ?_ GE114.out | refine below_set ?_ GE115.out) | exact HB.out)⟩

end Go.Proofs.Ytmiemfgcggkbnaa.QP2
