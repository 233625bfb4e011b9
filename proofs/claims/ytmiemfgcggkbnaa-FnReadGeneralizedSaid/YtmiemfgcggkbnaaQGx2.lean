-- Written by a program of this work (wip/patch_print.py) for this claim.
import Derived.Test.YtmiemfgcggkbnaaQGx0
import Derived.Test.YtmiemfgcggkbnaaQGx1
namespace Go.Proofs.Ytmiemfgcggkbnaa.QG
open Go.RowKit Go.Proofs.YtmiemfgcggkbnaaW.PrintWords Go.Proofs.YtmiemfgcggkbnaaW.PrintLast Go.Proofs.YtmiemfgcggkbnaaW.PrintMore
attribute [local go_sem] max2_int min2_int max_two min_two max_three min_three max_four min_four   -- for this text's walks alone
set_option linter.unusedVariables false
set_option linter.unusedSimpArgs false

section
open Go.BigFrame
set_option linter.unusedSimpArgs false
theorem spec_days_eq (y m : Int) : spec_days.f 1 y m = some (daysI y m) := by
  unfold spec_days.f spec_days.j0 daysI
  by_cases h4 : m = 4
  · simp [h4]
  by_cases h6 : m = 6
  · simp [h6]
  by_cases h9 : m = 9
  · simp [h9]
  by_cases h11 : m = 11
  · simp [h11]
  by_cases h2 : m = 2
  · simp [h2]
    repeat' split
    all_goals rfl
  · simp [h4, h6, h9, h11, h2]
theorem days_any (y m : Int) (w : World) : Calls Try.prog 83 #[.int .i64 y, .int .i64 m] w fun e w' => e = .returned (.int .i64 (daysI y m)) ∧ Drawn0 w w' := spec_days.calls 1 y m _ w (spec_days_eq y m)
/-- Whether a time is one. -/
def rightB (y mo d h mi s na a : Int) : Bool := decide (0 ≤ y) && decide (y ≤ 9999) && decide (1 ≤ mo) && decide (mo ≤ 12) && decide (1 ≤ d) && decide (d ≤ daysI y mo) && decide (0 ≤ h) && decide (h < 24) && decide (0 ≤ mi) && decide (mi < 60) && decide (0 ≤ s) && decide (s < 60) && decide (0 ≤ na) && decide (na < 1000000000) && decide (-1440 < a) && decide (a < 1440)
def RightTo (w : World) (b : Bool) (e : Ending) (w' : World) : Prop := e = .returned (.bool b) ∧ Below w.heap.size w w'
theorem lex53 : Region.lexB .any (opsOf Try.f53 1) = true := by kernel_rfl
set_option maxHeartbeats 8000000 in
set_option maxRecDepth 100000 in
theorem Right_0 (y mo d h mi s na a : Int) (w : World)  (h0 : ¬ (0 ≤ y)) :
    Calls Try.prog 53 #[.agg #[.int .i64 y, .int .i64 mo, .int .i64 d, .int .i64 h, .int .i64 mi, .int .i64 s, .int .i64 na, .int .i64 a]] w (RightTo w false) := by
  have HB := Aside0.mk (Below.refl w.heap.size w)
  have hu := Try.underlying44
  have q0 : decide (0 ≤ y) = false := decide_eq_false h0
  clear h0
  go_enter Try.func53, Try.ntmps53
  go_wp2_with (((with_reducible refine gate_dst (N := 1) rfl ?_); refine box_event ?hg (N := 1) ?hd (cs := #[.int .i64 y, .int .i64 mo, .int .i64 d, .int .i64 h, .int .i64 mi, .int .i64 s, .int .i64 na, .int .i64 a]) (t := 44) ?hr ?_; (case hd => rfl); (case hg => rfl); (case hr => first | (go_simp; done) | (go_simp; rfl)); intro gb hg w3 hbox hb; have c0 := (blk_cell hbox 0).trans (show _ = some (.int .i64 y) from rfl); have c1 := (blk_cell hbox 1).trans (show _ = some (.int .i64 mo) from rfl); have c2 := (blk_cell hbox 2).trans (show _ = some (.int .i64 d) from rfl); have c3 := (blk_cell hbox 3).trans (show _ = some (.int .i64 h) from rfl); have c4 := (blk_cell hbox 4).trans (show _ = some (.int .i64 mi) from rfl); have c5 := (blk_cell hbox 5).trans (show _ = some (.int .i64 s) from rfl); have c6 := (blk_cell hbox 6).trans (show _ = some (.int .i64 na) from rfl); have c7 := (blk_cell hbox 7).trans (show _ = some (.int .i64 a) from rfl); have HB2 := Aside0.mk (below_step HB.out hb); clear hbox hb; clear hg))
  refine wp_quiet_of (ops0 := opsOf Try.f53 1) (by kernel_rfl) (by kernel_rfl) lex53 ?_
  simp only [app_cons_, app_nil_]
  repeat (go_big_quiet_step ((go_at_call 83; exact Calls.quiet_of ((days_any y mo _).mono fun _ _ ⟨he, ⟨h⟩⟩ => ⟨he, h⟩))))
  refine wpQuiet_nil ?_
  intro _ hw'
  obtain ⟨nq, hw''⟩ := hw'
  subst hw''
  go_wp2
  go_ret
  exact ⟨rfl, by repeat (first | exact HB2.out | apply pw_below_drewN)⟩
set_option maxHeartbeats 8000000 in
set_option maxRecDepth 100000 in
theorem Right_1 (y mo d h mi s na a : Int) (w : World) (h0 : 0 ≤ y) (h1 : ¬ (y ≤ 9999)) :
    Calls Try.prog 53 #[.agg #[.int .i64 y, .int .i64 mo, .int .i64 d, .int .i64 h, .int .i64 mi, .int .i64 s, .int .i64 na, .int .i64 a]] w (RightTo w false) := by
  have HB := Aside0.mk (Below.refl w.heap.size w)
  have hu := Try.underlying44
  have q0 : decide (0 ≤ y) = true := decide_eq_true h0
  have q1 : decide (y ≤ 9999) = false := decide_eq_false h1
  clear h0 h1
  go_enter Try.func53, Try.ntmps53
  go_wp2_with (((with_reducible refine gate_dst (N := 1) rfl ?_); refine box_event ?hg (N := 1) ?hd (cs := #[.int .i64 y, .int .i64 mo, .int .i64 d, .int .i64 h, .int .i64 mi, .int .i64 s, .int .i64 na, .int .i64 a]) (t := 44) ?hr ?_; (case hd => rfl); (case hg => rfl); (case hr => first | (go_simp; done) | (go_simp; rfl)); intro gb hg w3 hbox hb; have c0 := (blk_cell hbox 0).trans (show _ = some (.int .i64 y) from rfl); have c1 := (blk_cell hbox 1).trans (show _ = some (.int .i64 mo) from rfl); have c2 := (blk_cell hbox 2).trans (show _ = some (.int .i64 d) from rfl); have c3 := (blk_cell hbox 3).trans (show _ = some (.int .i64 h) from rfl); have c4 := (blk_cell hbox 4).trans (show _ = some (.int .i64 mi) from rfl); have c5 := (blk_cell hbox 5).trans (show _ = some (.int .i64 s) from rfl); have c6 := (blk_cell hbox 6).trans (show _ = some (.int .i64 na) from rfl); have c7 := (blk_cell hbox 7).trans (show _ = some (.int .i64 a) from rfl); have HB2 := Aside0.mk (below_step HB.out hb); clear hbox hb; clear hg))
  refine wp_quiet_of (ops0 := opsOf Try.f53 1) (by kernel_rfl) (by kernel_rfl) lex53 ?_
  simp only [app_cons_, app_nil_]
  repeat (go_big_quiet_step ((go_at_call 83; exact Calls.quiet_of ((days_any y mo _).mono fun _ _ ⟨he, ⟨h⟩⟩ => ⟨he, h⟩))))
  refine wpQuiet_nil ?_
  intro _ hw'
  obtain ⟨nq, hw''⟩ := hw'
  subst hw''
  go_wp2
  go_ret
  exact ⟨rfl, by repeat (first | exact HB2.out | apply pw_below_drewN)⟩
set_option maxHeartbeats 8000000 in
set_option maxRecDepth 100000 in
theorem Right_2 (y mo d h mi s na a : Int) (w : World) (h0 : 0 ≤ y) (h1 : y ≤ 9999) (h2 : ¬ (1 ≤ mo)) :
    Calls Try.prog 53 #[.agg #[.int .i64 y, .int .i64 mo, .int .i64 d, .int .i64 h, .int .i64 mi, .int .i64 s, .int .i64 na, .int .i64 a]] w (RightTo w false) := by
  have HB := Aside0.mk (Below.refl w.heap.size w)
  have hu := Try.underlying44
  have q0 : decide (0 ≤ y) = true := decide_eq_true h0
  have q1 : decide (y ≤ 9999) = true := decide_eq_true h1
  have q2 : decide (1 ≤ mo) = false := decide_eq_false h2
  clear h0 h1 h2
  go_enter Try.func53, Try.ntmps53
  go_wp2_with (((with_reducible refine gate_dst (N := 1) rfl ?_); refine box_event ?hg (N := 1) ?hd (cs := #[.int .i64 y, .int .i64 mo, .int .i64 d, .int .i64 h, .int .i64 mi, .int .i64 s, .int .i64 na, .int .i64 a]) (t := 44) ?hr ?_; (case hd => rfl); (case hg => rfl); (case hr => first | (go_simp; done) | (go_simp; rfl)); intro gb hg w3 hbox hb; have c0 := (blk_cell hbox 0).trans (show _ = some (.int .i64 y) from rfl); have c1 := (blk_cell hbox 1).trans (show _ = some (.int .i64 mo) from rfl); have c2 := (blk_cell hbox 2).trans (show _ = some (.int .i64 d) from rfl); have c3 := (blk_cell hbox 3).trans (show _ = some (.int .i64 h) from rfl); have c4 := (blk_cell hbox 4).trans (show _ = some (.int .i64 mi) from rfl); have c5 := (blk_cell hbox 5).trans (show _ = some (.int .i64 s) from rfl); have c6 := (blk_cell hbox 6).trans (show _ = some (.int .i64 na) from rfl); have c7 := (blk_cell hbox 7).trans (show _ = some (.int .i64 a) from rfl); have HB2 := Aside0.mk (below_step HB.out hb); clear hbox hb; clear hg))
  refine wp_quiet_of (ops0 := opsOf Try.f53 1) (by kernel_rfl) (by kernel_rfl) lex53 ?_
  simp only [app_cons_, app_nil_]
  repeat (go_big_quiet_step ((go_at_call 83; exact Calls.quiet_of ((days_any y mo _).mono fun _ _ ⟨he, ⟨h⟩⟩ => ⟨he, h⟩))))
  refine wpQuiet_nil ?_
  intro _ hw'
  obtain ⟨nq, hw''⟩ := hw'
  subst hw''
  go_wp2
  go_ret
  exact ⟨rfl, by repeat (first | exact HB2.out | apply pw_below_drewN)⟩
set_option maxHeartbeats 8000000 in
set_option maxRecDepth 100000 in
theorem Right_3 (y mo d h mi s na a : Int) (w : World) (h0 : 0 ≤ y) (h1 : y ≤ 9999) (h2 : 1 ≤ mo) (h3 : ¬ (mo ≤ 12)) :
    Calls Try.prog 53 #[.agg #[.int .i64 y, .int .i64 mo, .int .i64 d, .int .i64 h, .int .i64 mi, .int .i64 s, .int .i64 na, .int .i64 a]] w (RightTo w false) := by
  have HB := Aside0.mk (Below.refl w.heap.size w)
  have hu := Try.underlying44
  have q0 : decide (0 ≤ y) = true := decide_eq_true h0
  have q1 : decide (y ≤ 9999) = true := decide_eq_true h1
  have q2 : decide (1 ≤ mo) = true := decide_eq_true h2
  have q3 : decide (mo ≤ 12) = false := decide_eq_false h3
  clear h0 h1 h2 h3
  go_enter Try.func53, Try.ntmps53
  go_wp2_with (((with_reducible refine gate_dst (N := 1) rfl ?_); refine box_event ?hg (N := 1) ?hd (cs := #[.int .i64 y, .int .i64 mo, .int .i64 d, .int .i64 h, .int .i64 mi, .int .i64 s, .int .i64 na, .int .i64 a]) (t := 44) ?hr ?_; (case hd => rfl); (case hg => rfl); (case hr => first | (go_simp; done) | (go_simp; rfl)); intro gb hg w3 hbox hb; have c0 := (blk_cell hbox 0).trans (show _ = some (.int .i64 y) from rfl); have c1 := (blk_cell hbox 1).trans (show _ = some (.int .i64 mo) from rfl); have c2 := (blk_cell hbox 2).trans (show _ = some (.int .i64 d) from rfl); have c3 := (blk_cell hbox 3).trans (show _ = some (.int .i64 h) from rfl); have c4 := (blk_cell hbox 4).trans (show _ = some (.int .i64 mi) from rfl); have c5 := (blk_cell hbox 5).trans (show _ = some (.int .i64 s) from rfl); have c6 := (blk_cell hbox 6).trans (show _ = some (.int .i64 na) from rfl); have c7 := (blk_cell hbox 7).trans (show _ = some (.int .i64 a) from rfl); have HB2 := Aside0.mk (below_step HB.out hb); clear hbox hb; clear hg))
  refine wp_quiet_of (ops0 := opsOf Try.f53 1) (by kernel_rfl) (by kernel_rfl) lex53 ?_
  simp only [app_cons_, app_nil_]
  repeat (go_big_quiet_step ((go_at_call 83; exact Calls.quiet_of ((days_any y mo _).mono fun _ _ ⟨he, ⟨h⟩⟩ => ⟨he, h⟩))))
  refine wpQuiet_nil ?_
  intro _ hw'
  obtain ⟨nq, hw''⟩ := hw'
  subst hw''
  go_wp2
  go_ret
  exact ⟨rfl, by repeat (first | exact HB2.out | apply pw_below_drewN)⟩
set_option maxHeartbeats 8000000 in
set_option maxRecDepth 100000 in
theorem Right_4 (y mo d h mi s na a : Int) (w : World) (h0 : 0 ≤ y) (h1 : y ≤ 9999) (h2 : 1 ≤ mo) (h3 : mo ≤ 12) (h4 : ¬ (1 ≤ d)) :
    Calls Try.prog 53 #[.agg #[.int .i64 y, .int .i64 mo, .int .i64 d, .int .i64 h, .int .i64 mi, .int .i64 s, .int .i64 na, .int .i64 a]] w (RightTo w false) := by
  have HB := Aside0.mk (Below.refl w.heap.size w)
  have hu := Try.underlying44
  have q0 : decide (0 ≤ y) = true := decide_eq_true h0
  have q1 : decide (y ≤ 9999) = true := decide_eq_true h1
  have q2 : decide (1 ≤ mo) = true := decide_eq_true h2
  have q3 : decide (mo ≤ 12) = true := decide_eq_true h3
  have q4 : decide (1 ≤ d) = false := decide_eq_false h4
  clear h0 h1 h2 h3 h4
  go_enter Try.func53, Try.ntmps53
  go_wp2_with (((with_reducible refine gate_dst (N := 1) rfl ?_); refine box_event ?hg (N := 1) ?hd (cs := #[.int .i64 y, .int .i64 mo, .int .i64 d, .int .i64 h, .int .i64 mi, .int .i64 s, .int .i64 na, .int .i64 a]) (t := 44) ?hr ?_; (case hd => rfl); (case hg => rfl); (case hr => first | (go_simp; done) | (go_simp; rfl)); intro gb hg w3 hbox hb; have c0 := (blk_cell hbox 0).trans (show _ = some (.int .i64 y) from rfl); have c1 := (blk_cell hbox 1).trans (show _ = some (.int .i64 mo) from rfl); have c2 := (blk_cell hbox 2).trans (show _ = some (.int .i64 d) from rfl); have c3 := (blk_cell hbox 3).trans (show _ = some (.int .i64 h) from rfl); have c4 := (blk_cell hbox 4).trans (show _ = some (.int .i64 mi) from rfl); have c5 := (blk_cell hbox 5).trans (show _ = some (.int .i64 s) from rfl); have c6 := (blk_cell hbox 6).trans (show _ = some (.int .i64 na) from rfl); have c7 := (blk_cell hbox 7).trans (show _ = some (.int .i64 a) from rfl); have HB2 := Aside0.mk (below_step HB.out hb); clear hbox hb; clear hg))
  refine wp_quiet_of (ops0 := opsOf Try.f53 1) (by kernel_rfl) (by kernel_rfl) lex53 ?_
  simp only [app_cons_, app_nil_]
  repeat (go_big_quiet_step ((go_at_call 83; exact Calls.quiet_of ((days_any y mo _).mono fun _ _ ⟨he, ⟨h⟩⟩ => ⟨he, h⟩))))
  refine wpQuiet_nil ?_
  intro _ hw'
  obtain ⟨nq, hw''⟩ := hw'
  subst hw''
  go_wp2
  go_ret
  exact ⟨rfl, by repeat (first | exact HB2.out | apply pw_below_drewN)⟩
set_option maxHeartbeats 8000000 in
set_option maxRecDepth 100000 in
theorem Right_5 (y mo d h mi s na a : Int) (w : World) (h0 : 0 ≤ y) (h1 : y ≤ 9999) (h2 : 1 ≤ mo) (h3 : mo ≤ 12) (h4 : 1 ≤ d) (h5 : ¬ (d ≤ daysI y mo)) :
    Calls Try.prog 53 #[.agg #[.int .i64 y, .int .i64 mo, .int .i64 d, .int .i64 h, .int .i64 mi, .int .i64 s, .int .i64 na, .int .i64 a]] w (RightTo w false) := by
  have HB := Aside0.mk (Below.refl w.heap.size w)
  have hu := Try.underlying44
  have q0 : decide (0 ≤ y) = true := decide_eq_true h0
  have q1 : decide (y ≤ 9999) = true := decide_eq_true h1
  have q2 : decide (1 ≤ mo) = true := decide_eq_true h2
  have q3 : decide (mo ≤ 12) = true := decide_eq_true h3
  have q4 : decide (1 ≤ d) = true := decide_eq_true h4
  have q5 : decide (d ≤ daysI y mo) = false := decide_eq_false h5
  clear h0 h1 h2 h3 h4 h5
  go_enter Try.func53, Try.ntmps53
  go_wp2_with (((with_reducible refine gate_dst (N := 1) rfl ?_); refine box_event ?hg (N := 1) ?hd (cs := #[.int .i64 y, .int .i64 mo, .int .i64 d, .int .i64 h, .int .i64 mi, .int .i64 s, .int .i64 na, .int .i64 a]) (t := 44) ?hr ?_; (case hd => rfl); (case hg => rfl); (case hr => first | (go_simp; done) | (go_simp; rfl)); intro gb hg w3 hbox hb; have c0 := (blk_cell hbox 0).trans (show _ = some (.int .i64 y) from rfl); have c1 := (blk_cell hbox 1).trans (show _ = some (.int .i64 mo) from rfl); have c2 := (blk_cell hbox 2).trans (show _ = some (.int .i64 d) from rfl); have c3 := (blk_cell hbox 3).trans (show _ = some (.int .i64 h) from rfl); have c4 := (blk_cell hbox 4).trans (show _ = some (.int .i64 mi) from rfl); have c5 := (blk_cell hbox 5).trans (show _ = some (.int .i64 s) from rfl); have c6 := (blk_cell hbox 6).trans (show _ = some (.int .i64 na) from rfl); have c7 := (blk_cell hbox 7).trans (show _ = some (.int .i64 a) from rfl); have HB2 := Aside0.mk (below_step HB.out hb); clear hbox hb; clear hg))
  refine wp_quiet_of (ops0 := opsOf Try.f53 1) (by kernel_rfl) (by kernel_rfl) lex53 ?_
  simp only [app_cons_, app_nil_]
  repeat (go_big_quiet_step ((go_at_call 83; exact Calls.quiet_of ((days_any y mo _).mono fun _ _ ⟨he, ⟨h⟩⟩ => ⟨he, h⟩))))
  refine wpQuiet_nil ?_
  intro _ hw'
  obtain ⟨nq, hw''⟩ := hw'
  subst hw''
  go_wp2
  go_ret
  exact ⟨rfl, by repeat (first | exact HB2.out | apply pw_below_drewN)⟩
set_option maxHeartbeats 8000000 in
set_option maxRecDepth 100000 in
theorem Right_6 (y mo d h mi s na a : Int) (w : World) (h0 : 0 ≤ y) (h1 : y ≤ 9999) (h2 : 1 ≤ mo) (h3 : mo ≤ 12) (h4 : 1 ≤ d) (h5 : d ≤ daysI y mo) (h6 : ¬ (0 ≤ h)) :
    Calls Try.prog 53 #[.agg #[.int .i64 y, .int .i64 mo, .int .i64 d, .int .i64 h, .int .i64 mi, .int .i64 s, .int .i64 na, .int .i64 a]] w (RightTo w false) := by
  have HB := Aside0.mk (Below.refl w.heap.size w)
  have hu := Try.underlying44
  have q0 : decide (0 ≤ y) = true := decide_eq_true h0
  have q1 : decide (y ≤ 9999) = true := decide_eq_true h1
  have q2 : decide (1 ≤ mo) = true := decide_eq_true h2
  have q3 : decide (mo ≤ 12) = true := decide_eq_true h3
  have q4 : decide (1 ≤ d) = true := decide_eq_true h4
  have q5 : decide (d ≤ daysI y mo) = true := decide_eq_true h5
  have q6 : decide (0 ≤ h) = false := decide_eq_false h6
  clear h0 h1 h2 h3 h4 h5 h6
  go_enter Try.func53, Try.ntmps53
  go_wp2_with (((with_reducible refine gate_dst (N := 1) rfl ?_); refine box_event ?hg (N := 1) ?hd (cs := #[.int .i64 y, .int .i64 mo, .int .i64 d, .int .i64 h, .int .i64 mi, .int .i64 s, .int .i64 na, .int .i64 a]) (t := 44) ?hr ?_; (case hd => rfl); (case hg => rfl); (case hr => first | (go_simp; done) | (go_simp; rfl)); intro gb hg w3 hbox hb; have c0 := (blk_cell hbox 0).trans (show _ = some (.int .i64 y) from rfl); have c1 := (blk_cell hbox 1).trans (show _ = some (.int .i64 mo) from rfl); have c2 := (blk_cell hbox 2).trans (show _ = some (.int .i64 d) from rfl); have c3 := (blk_cell hbox 3).trans (show _ = some (.int .i64 h) from rfl); have c4 := (blk_cell hbox 4).trans (show _ = some (.int .i64 mi) from rfl); have c5 := (blk_cell hbox 5).trans (show _ = some (.int .i64 s) from rfl); have c6 := (blk_cell hbox 6).trans (show _ = some (.int .i64 na) from rfl); have c7 := (blk_cell hbox 7).trans (show _ = some (.int .i64 a) from rfl); have HB2 := Aside0.mk (below_step HB.out hb); clear hbox hb; clear hg))
  refine wp_quiet_of (ops0 := opsOf Try.f53 1) (by kernel_rfl) (by kernel_rfl) lex53 ?_
  simp only [app_cons_, app_nil_]
  repeat (go_big_quiet_step ((go_at_call 83; exact Calls.quiet_of ((days_any y mo _).mono fun _ _ ⟨he, ⟨h⟩⟩ => ⟨he, h⟩))))
  refine wpQuiet_nil ?_
  intro _ hw'
  obtain ⟨nq, hw''⟩ := hw'
  subst hw''
  go_wp2
  go_ret
  exact ⟨rfl, by repeat (first | exact HB2.out | apply pw_below_drewN)⟩
set_option maxHeartbeats 8000000 in
set_option maxRecDepth 100000 in
theorem Right_7 (y mo d h mi s na a : Int) (w : World) (h0 : 0 ≤ y) (h1 : y ≤ 9999) (h2 : 1 ≤ mo) (h3 : mo ≤ 12) (h4 : 1 ≤ d) (h5 : d ≤ daysI y mo) (h6 : 0 ≤ h) (h7 : ¬ (h < 24)) :
    Calls Try.prog 53 #[.agg #[.int .i64 y, .int .i64 mo, .int .i64 d, .int .i64 h, .int .i64 mi, .int .i64 s, .int .i64 na, .int .i64 a]] w (RightTo w false) := by
  have HB := Aside0.mk (Below.refl w.heap.size w)
  have hu := Try.underlying44
  have q0 : decide (0 ≤ y) = true := decide_eq_true h0
  have q1 : decide (y ≤ 9999) = true := decide_eq_true h1
  have q2 : decide (1 ≤ mo) = true := decide_eq_true h2
  have q3 : decide (mo ≤ 12) = true := decide_eq_true h3
  have q4 : decide (1 ≤ d) = true := decide_eq_true h4
  have q5 : decide (d ≤ daysI y mo) = true := decide_eq_true h5
  have q6 : decide (0 ≤ h) = true := decide_eq_true h6
  have q7 : decide (h < 24) = false := decide_eq_false h7
  clear h0 h1 h2 h3 h4 h5 h6 h7
  go_enter Try.func53, Try.ntmps53
  go_wp2_with (((with_reducible refine gate_dst (N := 1) rfl ?_); refine box_event ?hg (N := 1) ?hd (cs := #[.int .i64 y, .int .i64 mo, .int .i64 d, .int .i64 h, .int .i64 mi, .int .i64 s, .int .i64 na, .int .i64 a]) (t := 44) ?hr ?_; (case hd => rfl); (case hg => rfl); (case hr => first | (go_simp; done) | (go_simp; rfl)); intro gb hg w3 hbox hb; have c0 := (blk_cell hbox 0).trans (show _ = some (.int .i64 y) from rfl); have c1 := (blk_cell hbox 1).trans (show _ = some (.int .i64 mo) from rfl); have c2 := (blk_cell hbox 2).trans (show _ = some (.int .i64 d) from rfl); have c3 := (blk_cell hbox 3).trans (show _ = some (.int .i64 h) from rfl); have c4 := (blk_cell hbox 4).trans (show _ = some (.int .i64 mi) from rfl); have c5 := (blk_cell hbox 5).trans (show _ = some (.int .i64 s) from rfl); have c6 := (blk_cell hbox 6).trans (show _ = some (.int .i64 na) from rfl); have c7 := (blk_cell hbox 7).trans (show _ = some (.int .i64 a) from rfl); have HB2 := Aside0.mk (below_step HB.out hb); clear hbox hb; clear hg))
  refine wp_quiet_of (ops0 := opsOf Try.f53 1) (by kernel_rfl) (by kernel_rfl) lex53 ?_
  simp only [app_cons_, app_nil_]
  repeat (go_big_quiet_step ((go_at_call 83; exact Calls.quiet_of ((days_any y mo _).mono fun _ _ ⟨he, ⟨h⟩⟩ => ⟨he, h⟩))))
  refine wpQuiet_nil ?_
  intro _ hw'
  obtain ⟨nq, hw''⟩ := hw'
  subst hw''
  go_wp2
  go_ret
  exact ⟨rfl, by repeat (first | exact HB2.out | apply pw_below_drewN)⟩
set_option maxHeartbeats 8000000 in
set_option maxRecDepth 100000 in
theorem Right_8 (y mo d h mi s na a : Int) (w : World) (h0 : 0 ≤ y) (h1 : y ≤ 9999) (h2 : 1 ≤ mo) (h3 : mo ≤ 12) (h4 : 1 ≤ d) (h5 : d ≤ daysI y mo) (h6 : 0 ≤ h) (h7 : h < 24) (h8 : ¬ (0 ≤ mi)) :
    Calls Try.prog 53 #[.agg #[.int .i64 y, .int .i64 mo, .int .i64 d, .int .i64 h, .int .i64 mi, .int .i64 s, .int .i64 na, .int .i64 a]] w (RightTo w false) := by
  have HB := Aside0.mk (Below.refl w.heap.size w)
  have hu := Try.underlying44
  have q0 : decide (0 ≤ y) = true := decide_eq_true h0
  have q1 : decide (y ≤ 9999) = true := decide_eq_true h1
  have q2 : decide (1 ≤ mo) = true := decide_eq_true h2
  have q3 : decide (mo ≤ 12) = true := decide_eq_true h3
  have q4 : decide (1 ≤ d) = true := decide_eq_true h4
  have q5 : decide (d ≤ daysI y mo) = true := decide_eq_true h5
  have q6 : decide (0 ≤ h) = true := decide_eq_true h6
  have q7 : decide (h < 24) = true := decide_eq_true h7
  have q8 : decide (0 ≤ mi) = false := decide_eq_false h8
  clear h0 h1 h2 h3 h4 h5 h6 h7 h8
  go_enter Try.func53, Try.ntmps53
  go_wp2_with (((with_reducible refine gate_dst (N := 1) rfl ?_); refine box_event ?hg (N := 1) ?hd (cs := #[.int .i64 y, .int .i64 mo, .int .i64 d, .int .i64 h, .int .i64 mi, .int .i64 s, .int .i64 na, .int .i64 a]) (t := 44) ?hr ?_; (case hd => rfl); (case hg => rfl); (case hr => first | (go_simp; done) | (go_simp; rfl)); intro gb hg w3 hbox hb; have c0 := (blk_cell hbox 0).trans (show _ = some (.int .i64 y) from rfl); have c1 := (blk_cell hbox 1).trans (show _ = some (.int .i64 mo) from rfl); have c2 := (blk_cell hbox 2).trans (show _ = some (.int .i64 d) from rfl); have c3 := (blk_cell hbox 3).trans (show _ = some (.int .i64 h) from rfl); have c4 := (blk_cell hbox 4).trans (show _ = some (.int .i64 mi) from rfl); have c5 := (blk_cell hbox 5).trans (show _ = some (.int .i64 s) from rfl); have c6 := (blk_cell hbox 6).trans (show _ = some (.int .i64 na) from rfl); have c7 := (blk_cell hbox 7).trans (show _ = some (.int .i64 a) from rfl); have HB2 := Aside0.mk (below_step HB.out hb); clear hbox hb; clear hg))
  refine wp_quiet_of (ops0 := opsOf Try.f53 1) (by kernel_rfl) (by kernel_rfl) lex53 ?_
  simp only [app_cons_, app_nil_]
  repeat (go_big_quiet_step ((go_at_call 83; exact Calls.quiet_of ((days_any y mo _).mono fun _ _ ⟨he, ⟨h⟩⟩ => ⟨he, h⟩))))
  refine wpQuiet_nil ?_
  intro _ hw'
  obtain ⟨nq, hw''⟩ := hw'
  subst hw''
  go_wp2
  go_ret
  exact ⟨rfl, by repeat (first | exact HB2.out | apply pw_below_drewN)⟩
set_option maxHeartbeats 8000000 in
set_option maxRecDepth 100000 in
theorem Right_9 (y mo d h mi s na a : Int) (w : World) (h0 : 0 ≤ y) (h1 : y ≤ 9999) (h2 : 1 ≤ mo) (h3 : mo ≤ 12) (h4 : 1 ≤ d) (h5 : d ≤ daysI y mo) (h6 : 0 ≤ h) (h7 : h < 24) (h8 : 0 ≤ mi) (h9 : ¬ (mi < 60)) :
    Calls Try.prog 53 #[.agg #[.int .i64 y, .int .i64 mo, .int .i64 d, .int .i64 h, .int .i64 mi, .int .i64 s, .int .i64 na, .int .i64 a]] w (RightTo w false) := by
  have HB := Aside0.mk (Below.refl w.heap.size w)
  have hu := Try.underlying44
  have q0 : decide (0 ≤ y) = true := decide_eq_true h0
  have q1 : decide (y ≤ 9999) = true := decide_eq_true h1
  have q2 : decide (1 ≤ mo) = true := decide_eq_true h2
  have q3 : decide (mo ≤ 12) = true := decide_eq_true h3
  have q4 : decide (1 ≤ d) = true := decide_eq_true h4
  have q5 : decide (d ≤ daysI y mo) = true := decide_eq_true h5
  have q6 : decide (0 ≤ h) = true := decide_eq_true h6
  have q7 : decide (h < 24) = true := decide_eq_true h7
  have q8 : decide (0 ≤ mi) = true := decide_eq_true h8
  have q9 : decide (mi < 60) = false := decide_eq_false h9
  clear h0 h1 h2 h3 h4 h5 h6 h7 h8 h9
  go_enter Try.func53, Try.ntmps53
  go_wp2_with (((with_reducible refine gate_dst (N := 1) rfl ?_); refine box_event ?hg (N := 1) ?hd (cs := #[.int .i64 y, .int .i64 mo, .int .i64 d, .int .i64 h, .int .i64 mi, .int .i64 s, .int .i64 na, .int .i64 a]) (t := 44) ?hr ?_; (case hd => rfl); (case hg => rfl); (case hr => first | (go_simp; done) | (go_simp; rfl)); intro gb hg w3 hbox hb; have c0 := (blk_cell hbox 0).trans (show _ = some (.int .i64 y) from rfl); have c1 := (blk_cell hbox 1).trans (show _ = some (.int .i64 mo) from rfl); have c2 := (blk_cell hbox 2).trans (show _ = some (.int .i64 d) from rfl); have c3 := (blk_cell hbox 3).trans (show _ = some (.int .i64 h) from rfl); have c4 := (blk_cell hbox 4).trans (show _ = some (.int .i64 mi) from rfl); have c5 := (blk_cell hbox 5).trans (show _ = some (.int .i64 s) from rfl); have c6 := (blk_cell hbox 6).trans (show _ = some (.int .i64 na) from rfl); have c7 := (blk_cell hbox 7).trans (show _ = some (.int .i64 a) from rfl); have HB2 := Aside0.mk (below_step HB.out hb); clear hbox hb; clear hg))
  refine wp_quiet_of (ops0 := opsOf Try.f53 1) (by kernel_rfl) (by kernel_rfl) lex53 ?_
  simp only [app_cons_, app_nil_]
  repeat (go_big_quiet_step ((go_at_call 83; exact Calls.quiet_of ((days_any y mo _).mono fun _ _ ⟨he, ⟨h⟩⟩ => ⟨he, h⟩))))
  refine wpQuiet_nil ?_
  intro _ hw'
  obtain ⟨nq, hw''⟩ := hw'
  subst hw''
  go_wp2
  go_ret
  exact ⟨rfl, by repeat (first | exact HB2.out | apply pw_below_drewN)⟩
set_option maxHeartbeats 8000000 in
set_option maxRecDepth 100000 in
theorem Right_10 (y mo d h mi s na a : Int) (w : World) (h0 : 0 ≤ y) (h1 : y ≤ 9999) (h2 : 1 ≤ mo) (h3 : mo ≤ 12) (h4 : 1 ≤ d) (h5 : d ≤ daysI y mo) (h6 : 0 ≤ h) (h7 : h < 24) (h8 : 0 ≤ mi) (h9 : mi < 60) (h10 : ¬ (0 ≤ s)) :
    Calls Try.prog 53 #[.agg #[.int .i64 y, .int .i64 mo, .int .i64 d, .int .i64 h, .int .i64 mi, .int .i64 s, .int .i64 na, .int .i64 a]] w (RightTo w false) := by
  have HB := Aside0.mk (Below.refl w.heap.size w)
  have hu := Try.underlying44
  have q0 : decide (0 ≤ y) = true := decide_eq_true h0
  have q1 : decide (y ≤ 9999) = true := decide_eq_true h1
  have q2 : decide (1 ≤ mo) = true := decide_eq_true h2
  have q3 : decide (mo ≤ 12) = true := decide_eq_true h3
  have q4 : decide (1 ≤ d) = true := decide_eq_true h4
  have q5 : decide (d ≤ daysI y mo) = true := decide_eq_true h5
  have q6 : decide (0 ≤ h) = true := decide_eq_true h6
  have q7 : decide (h < 24) = true := decide_eq_true h7
  have q8 : decide (0 ≤ mi) = true := decide_eq_true h8
  have q9 : decide (mi < 60) = true := decide_eq_true h9
  have q10 : decide (0 ≤ s) = false := decide_eq_false h10
  clear h0 h1 h2 h3 h4 h5 h6 h7 h8 h9 h10
  go_enter Try.func53, Try.ntmps53
  go_wp2_with (((with_reducible refine gate_dst (N := 1) rfl ?_); refine box_event ?hg (N := 1) ?hd (cs := #[.int .i64 y, .int .i64 mo, .int .i64 d, .int .i64 h, .int .i64 mi, .int .i64 s, .int .i64 na, .int .i64 a]) (t := 44) ?hr ?_; (case hd => rfl); (case hg => rfl); (case hr => first | (go_simp; done) | (go_simp; rfl)); intro gb hg w3 hbox hb; have c0 := (blk_cell hbox 0).trans (show _ = some (.int .i64 y) from rfl); have c1 := (blk_cell hbox 1).trans (show _ = some (.int .i64 mo) from rfl); have c2 := (blk_cell hbox 2).trans (show _ = some (.int .i64 d) from rfl); have c3 := (blk_cell hbox 3).trans (show _ = some (.int .i64 h) from rfl); have c4 := (blk_cell hbox 4).trans (show _ = some (.int .i64 mi) from rfl); have c5 := (blk_cell hbox 5).trans (show _ = some (.int .i64 s) from rfl); have c6 := (blk_cell hbox 6).trans (show _ = some (.int .i64 na) from rfl); have c7 := (blk_cell hbox 7).trans (show _ = some (.int .i64 a) from rfl); have HB2 := Aside0.mk (below_step HB.out hb); clear hbox hb; clear hg))
  refine wp_quiet_of (ops0 := opsOf Try.f53 1) (by kernel_rfl) (by kernel_rfl) lex53 ?_
  simp only [app_cons_, app_nil_]
  repeat (go_big_quiet_step ((go_at_call 83; exact Calls.quiet_of ((days_any y mo _).mono fun _ _ ⟨he, ⟨h⟩⟩ => ⟨he, h⟩))))
  refine wpQuiet_nil ?_
  intro _ hw'
  obtain ⟨nq, hw''⟩ := hw'
  subst hw''
  go_wp2
  go_ret
  exact ⟨rfl, by repeat (first | exact HB2.out | apply pw_below_drewN)⟩
set_option maxHeartbeats 8000000 in
set_option maxRecDepth 100000 in
theorem Right_11 (y mo d h mi s na a : Int) (w : World) (h0 : 0 ≤ y) (h1 : y ≤ 9999) (h2 : 1 ≤ mo) (h3 : mo ≤ 12) (h4 : 1 ≤ d) (h5 : d ≤ daysI y mo) (h6 : 0 ≤ h) (h7 : h < 24) (h8 : 0 ≤ mi) (h9 : mi < 60) (h10 : 0 ≤ s) (h11 : ¬ (s < 60)) :
    Calls Try.prog 53 #[.agg #[.int .i64 y, .int .i64 mo, .int .i64 d, .int .i64 h, .int .i64 mi, .int .i64 s, .int .i64 na, .int .i64 a]] w (RightTo w false) := by
  have HB := Aside0.mk (Below.refl w.heap.size w)
  have hu := Try.underlying44
  have q0 : decide (0 ≤ y) = true := decide_eq_true h0
  have q1 : decide (y ≤ 9999) = true := decide_eq_true h1
  have q2 : decide (1 ≤ mo) = true := decide_eq_true h2
  have q3 : decide (mo ≤ 12) = true := decide_eq_true h3
  have q4 : decide (1 ≤ d) = true := decide_eq_true h4
  have q5 : decide (d ≤ daysI y mo) = true := decide_eq_true h5
  have q6 : decide (0 ≤ h) = true := decide_eq_true h6
  have q7 : decide (h < 24) = true := decide_eq_true h7
  have q8 : decide (0 ≤ mi) = true := decide_eq_true h8
  have q9 : decide (mi < 60) = true := decide_eq_true h9
  have q10 : decide (0 ≤ s) = true := decide_eq_true h10
  have q11 : decide (s < 60) = false := decide_eq_false h11
  clear h0 h1 h2 h3 h4 h5 h6 h7 h8 h9 h10 h11
  go_enter Try.func53, Try.ntmps53
  go_wp2_with (((with_reducible refine gate_dst (N := 1) rfl ?_); refine box_event ?hg (N := 1) ?hd (cs := #[.int .i64 y, .int .i64 mo, .int .i64 d, .int .i64 h, .int .i64 mi, .int .i64 s, .int .i64 na, .int .i64 a]) (t := 44) ?hr ?_; (case hd => rfl); (case hg => rfl); (case hr => first | (go_simp; done) | (go_simp; rfl)); intro gb hg w3 hbox hb; have c0 := (blk_cell hbox 0).trans (show _ = some (.int .i64 y) from rfl); have c1 := (blk_cell hbox 1).trans (show _ = some (.int .i64 mo) from rfl); have c2 := (blk_cell hbox 2).trans (show _ = some (.int .i64 d) from rfl); have c3 := (blk_cell hbox 3).trans (show _ = some (.int .i64 h) from rfl); have c4 := (blk_cell hbox 4).trans (show _ = some (.int .i64 mi) from rfl); have c5 := (blk_cell hbox 5).trans (show _ = some (.int .i64 s) from rfl); have c6 := (blk_cell hbox 6).trans (show _ = some (.int .i64 na) from rfl); have c7 := (blk_cell hbox 7).trans (show _ = some (.int .i64 a) from rfl); have HB2 := Aside0.mk (below_step HB.out hb); clear hbox hb; clear hg))
  refine wp_quiet_of (ops0 := opsOf Try.f53 1) (by kernel_rfl) (by kernel_rfl) lex53 ?_
  simp only [app_cons_, app_nil_]
  repeat (go_big_quiet_step ((go_at_call 83; exact Calls.quiet_of ((days_any y mo _).mono fun _ _ ⟨he, ⟨h⟩⟩ => ⟨he, h⟩))))
  refine wpQuiet_nil ?_
  intro _ hw'
  obtain ⟨nq, hw''⟩ := hw'
  subst hw''
  go_wp2
  go_ret
  exact ⟨rfl, by repeat (first | exact HB2.out | apply pw_below_drewN)⟩
set_option maxHeartbeats 8000000 in
set_option maxRecDepth 100000 in
theorem Right_12 (y mo d h mi s na a : Int) (w : World) (h0 : 0 ≤ y) (h1 : y ≤ 9999) (h2 : 1 ≤ mo) (h3 : mo ≤ 12) (h4 : 1 ≤ d) (h5 : d ≤ daysI y mo) (h6 : 0 ≤ h) (h7 : h < 24) (h8 : 0 ≤ mi) (h9 : mi < 60) (h10 : 0 ≤ s) (h11 : s < 60) (h12 : ¬ (0 ≤ na)) :
    Calls Try.prog 53 #[.agg #[.int .i64 y, .int .i64 mo, .int .i64 d, .int .i64 h, .int .i64 mi, .int .i64 s, .int .i64 na, .int .i64 a]] w (RightTo w false) := by
  have HB := Aside0.mk (Below.refl w.heap.size w)
  have hu := Try.underlying44
  have q0 : decide (0 ≤ y) = true := decide_eq_true h0
  have q1 : decide (y ≤ 9999) = true := decide_eq_true h1
  have q2 : decide (1 ≤ mo) = true := decide_eq_true h2
  have q3 : decide (mo ≤ 12) = true := decide_eq_true h3
  have q4 : decide (1 ≤ d) = true := decide_eq_true h4
  have q5 : decide (d ≤ daysI y mo) = true := decide_eq_true h5
  have q6 : decide (0 ≤ h) = true := decide_eq_true h6
  have q7 : decide (h < 24) = true := decide_eq_true h7
  have q8 : decide (0 ≤ mi) = true := decide_eq_true h8
  have q9 : decide (mi < 60) = true := decide_eq_true h9
  have q10 : decide (0 ≤ s) = true := decide_eq_true h10
  have q11 : decide (s < 60) = true := decide_eq_true h11
  have q12 : decide (0 ≤ na) = false := decide_eq_false h12
  clear h0 h1 h2 h3 h4 h5 h6 h7 h8 h9 h10 h11 h12
  go_enter Try.func53, Try.ntmps53
  go_wp2_with (((with_reducible refine gate_dst (N := 1) rfl ?_); refine box_event ?hg (N := 1) ?hd (cs := #[.int .i64 y, .int .i64 mo, .int .i64 d, .int .i64 h, .int .i64 mi, .int .i64 s, .int .i64 na, .int .i64 a]) (t := 44) ?hr ?_; (case hd => rfl); (case hg => rfl); (case hr => first | (go_simp; done) | (go_simp; rfl)); intro gb hg w3 hbox hb; have c0 := (blk_cell hbox 0).trans (show _ = some (.int .i64 y) from rfl); have c1 := (blk_cell hbox 1).trans (show _ = some (.int .i64 mo) from rfl); have c2 := (blk_cell hbox 2).trans (show _ = some (.int .i64 d) from rfl); have c3 := (blk_cell hbox 3).trans (show _ = some (.int .i64 h) from rfl); have c4 := (blk_cell hbox 4).trans (show _ = some (.int .i64 mi) from rfl); have c5 := (blk_cell hbox 5).trans (show _ = some (.int .i64 s) from rfl); have c6 := (blk_cell hbox 6).trans (show _ = some (.int .i64 na) from rfl); have c7 := (blk_cell hbox 7).trans (show _ = some (.int .i64 a) from rfl); have HB2 := Aside0.mk (below_step HB.out hb); clear hbox hb; clear hg))
  refine wp_quiet_of (ops0 := opsOf Try.f53 1) (by kernel_rfl) (by kernel_rfl) lex53 ?_
  simp only [app_cons_, app_nil_]
  repeat (go_big_quiet_step ((go_at_call 83; exact Calls.quiet_of ((days_any y mo _).mono fun _ _ ⟨he, ⟨h⟩⟩ => ⟨he, h⟩))))
  refine wpQuiet_nil ?_
  intro _ hw'
  obtain ⟨nq, hw''⟩ := hw'
  subst hw''
  go_wp2
  go_ret
  exact ⟨rfl, by repeat (first | exact HB2.out | apply pw_below_drewN)⟩
set_option maxHeartbeats 8000000 in
set_option maxRecDepth 100000 in
theorem Right_13 (y mo d h mi s na a : Int) (w : World) (h0 : 0 ≤ y) (h1 : y ≤ 9999) (h2 : 1 ≤ mo) (h3 : mo ≤ 12) (h4 : 1 ≤ d) (h5 : d ≤ daysI y mo) (h6 : 0 ≤ h) (h7 : h < 24) (h8 : 0 ≤ mi) (h9 : mi < 60) (h10 : 0 ≤ s) (h11 : s < 60) (h12 : 0 ≤ na) (h13 : ¬ (na < 1000000000)) :
    Calls Try.prog 53 #[.agg #[.int .i64 y, .int .i64 mo, .int .i64 d, .int .i64 h, .int .i64 mi, .int .i64 s, .int .i64 na, .int .i64 a]] w (RightTo w false) := by
  have HB := Aside0.mk (Below.refl w.heap.size w)
  have hu := Try.underlying44
  have q0 : decide (0 ≤ y) = true := decide_eq_true h0
  have q1 : decide (y ≤ 9999) = true := decide_eq_true h1
  have q2 : decide (1 ≤ mo) = true := decide_eq_true h2
  have q3 : decide (mo ≤ 12) = true := decide_eq_true h3
  have q4 : decide (1 ≤ d) = true := decide_eq_true h4
  have q5 : decide (d ≤ daysI y mo) = true := decide_eq_true h5
  have q6 : decide (0 ≤ h) = true := decide_eq_true h6
  have q7 : decide (h < 24) = true := decide_eq_true h7
  have q8 : decide (0 ≤ mi) = true := decide_eq_true h8
  have q9 : decide (mi < 60) = true := decide_eq_true h9
  have q10 : decide (0 ≤ s) = true := decide_eq_true h10
  have q11 : decide (s < 60) = true := decide_eq_true h11
  have q12 : decide (0 ≤ na) = true := decide_eq_true h12
  have q13 : decide (na < 1000000000) = false := decide_eq_false h13
  clear h0 h1 h2 h3 h4 h5 h6 h7 h8 h9 h10 h11 h12 h13
  go_enter Try.func53, Try.ntmps53
  go_wp2_with (((with_reducible refine gate_dst (N := 1) rfl ?_); refine box_event ?hg (N := 1) ?hd (cs := #[.int .i64 y, .int .i64 mo, .int .i64 d, .int .i64 h, .int .i64 mi, .int .i64 s, .int .i64 na, .int .i64 a]) (t := 44) ?hr ?_; (case hd => rfl); (case hg => rfl); (case hr => first | (go_simp; done) | (go_simp; rfl)); intro gb hg w3 hbox hb; have c0 := (blk_cell hbox 0).trans (show _ = some (.int .i64 y) from rfl); have c1 := (blk_cell hbox 1).trans (show _ = some (.int .i64 mo) from rfl); have c2 := (blk_cell hbox 2).trans (show _ = some (.int .i64 d) from rfl); have c3 := (blk_cell hbox 3).trans (show _ = some (.int .i64 h) from rfl); have c4 := (blk_cell hbox 4).trans (show _ = some (.int .i64 mi) from rfl); have c5 := (blk_cell hbox 5).trans (show _ = some (.int .i64 s) from rfl); have c6 := (blk_cell hbox 6).trans (show _ = some (.int .i64 na) from rfl); have c7 := (blk_cell hbox 7).trans (show _ = some (.int .i64 a) from rfl); have HB2 := Aside0.mk (below_step HB.out hb); clear hbox hb; clear hg))
  refine wp_quiet_of (ops0 := opsOf Try.f53 1) (by kernel_rfl) (by kernel_rfl) lex53 ?_
  simp only [app_cons_, app_nil_]
  repeat (go_big_quiet_step ((go_at_call 83; exact Calls.quiet_of ((days_any y mo _).mono fun _ _ ⟨he, ⟨h⟩⟩ => ⟨he, h⟩))))
  refine wpQuiet_nil ?_
  intro _ hw'
  obtain ⟨nq, hw''⟩ := hw'
  subst hw''
  go_wp2
  go_ret
  exact ⟨rfl, by repeat (first | exact HB2.out | apply pw_below_drewN)⟩
set_option maxHeartbeats 8000000 in
set_option maxRecDepth 100000 in
theorem Right_14 (y mo d h mi s na a : Int) (w : World) (h0 : 0 ≤ y) (h1 : y ≤ 9999) (h2 : 1 ≤ mo) (h3 : mo ≤ 12) (h4 : 1 ≤ d) (h5 : d ≤ daysI y mo) (h6 : 0 ≤ h) (h7 : h < 24) (h8 : 0 ≤ mi) (h9 : mi < 60) (h10 : 0 ≤ s) (h11 : s < 60) (h12 : 0 ≤ na) (h13 : na < 1000000000) (h14 : ¬ (-1440 < a)) :
    Calls Try.prog 53 #[.agg #[.int .i64 y, .int .i64 mo, .int .i64 d, .int .i64 h, .int .i64 mi, .int .i64 s, .int .i64 na, .int .i64 a]] w (RightTo w false) := by
  have HB := Aside0.mk (Below.refl w.heap.size w)
  have hu := Try.underlying44
  have q0 : decide (0 ≤ y) = true := decide_eq_true h0
  have q1 : decide (y ≤ 9999) = true := decide_eq_true h1
  have q2 : decide (1 ≤ mo) = true := decide_eq_true h2
  have q3 : decide (mo ≤ 12) = true := decide_eq_true h3
  have q4 : decide (1 ≤ d) = true := decide_eq_true h4
  have q5 : decide (d ≤ daysI y mo) = true := decide_eq_true h5
  have q6 : decide (0 ≤ h) = true := decide_eq_true h6
  have q7 : decide (h < 24) = true := decide_eq_true h7
  have q8 : decide (0 ≤ mi) = true := decide_eq_true h8
  have q9 : decide (mi < 60) = true := decide_eq_true h9
  have q10 : decide (0 ≤ s) = true := decide_eq_true h10
  have q11 : decide (s < 60) = true := decide_eq_true h11
  have q12 : decide (0 ≤ na) = true := decide_eq_true h12
  have q13 : decide (na < 1000000000) = true := decide_eq_true h13
  have q14 : decide (-1440 < a) = false := decide_eq_false h14
  clear h0 h1 h2 h3 h4 h5 h6 h7 h8 h9 h10 h11 h12 h13 h14
  go_enter Try.func53, Try.ntmps53
  go_wp2_with (((with_reducible refine gate_dst (N := 1) rfl ?_); refine box_event ?hg (N := 1) ?hd (cs := #[.int .i64 y, .int .i64 mo, .int .i64 d, .int .i64 h, .int .i64 mi, .int .i64 s, .int .i64 na, .int .i64 a]) (t := 44) ?hr ?_; (case hd => rfl); (case hg => rfl); (case hr => first | (go_simp; done) | (go_simp; rfl)); intro gb hg w3 hbox hb; have c0 := (blk_cell hbox 0).trans (show _ = some (.int .i64 y) from rfl); have c1 := (blk_cell hbox 1).trans (show _ = some (.int .i64 mo) from rfl); have c2 := (blk_cell hbox 2).trans (show _ = some (.int .i64 d) from rfl); have c3 := (blk_cell hbox 3).trans (show _ = some (.int .i64 h) from rfl); have c4 := (blk_cell hbox 4).trans (show _ = some (.int .i64 mi) from rfl); have c5 := (blk_cell hbox 5).trans (show _ = some (.int .i64 s) from rfl); have c6 := (blk_cell hbox 6).trans (show _ = some (.int .i64 na) from rfl); have c7 := (blk_cell hbox 7).trans (show _ = some (.int .i64 a) from rfl); have HB2 := Aside0.mk (below_step HB.out hb); clear hbox hb; clear hg))
  refine wp_quiet_of (ops0 := opsOf Try.f53 1) (by kernel_rfl) (by kernel_rfl) lex53 ?_
  simp only [app_cons_, app_nil_]
  repeat (go_big_quiet_step ((go_at_call 83; exact Calls.quiet_of ((days_any y mo _).mono fun _ _ ⟨he, ⟨h⟩⟩ => ⟨he, h⟩))))
  refine wpQuiet_nil ?_
  intro _ hw'
  obtain ⟨nq, hw''⟩ := hw'
  subst hw''
  go_wp2
  go_ret
  exact ⟨rfl, by repeat (first | exact HB2.out | apply pw_below_drewN)⟩
set_option maxHeartbeats 8000000 in
set_option maxRecDepth 100000 in
theorem Right_15 (y mo d h mi s na a : Int) (w : World) (h0 : 0 ≤ y) (h1 : y ≤ 9999) (h2 : 1 ≤ mo) (h3 : mo ≤ 12) (h4 : 1 ≤ d) (h5 : d ≤ daysI y mo) (h6 : 0 ≤ h) (h7 : h < 24) (h8 : 0 ≤ mi) (h9 : mi < 60) (h10 : 0 ≤ s) (h11 : s < 60) (h12 : 0 ≤ na) (h13 : na < 1000000000) (h14 : -1440 < a) (h15 : ¬ (a < 1440)) :
    Calls Try.prog 53 #[.agg #[.int .i64 y, .int .i64 mo, .int .i64 d, .int .i64 h, .int .i64 mi, .int .i64 s, .int .i64 na, .int .i64 a]] w (RightTo w false) := by
  have HB := Aside0.mk (Below.refl w.heap.size w)
  have hu := Try.underlying44
  have q0 : decide (0 ≤ y) = true := decide_eq_true h0
  have q1 : decide (y ≤ 9999) = true := decide_eq_true h1
  have q2 : decide (1 ≤ mo) = true := decide_eq_true h2
  have q3 : decide (mo ≤ 12) = true := decide_eq_true h3
  have q4 : decide (1 ≤ d) = true := decide_eq_true h4
  have q5 : decide (d ≤ daysI y mo) = true := decide_eq_true h5
  have q6 : decide (0 ≤ h) = true := decide_eq_true h6
  have q7 : decide (h < 24) = true := decide_eq_true h7
  have q8 : decide (0 ≤ mi) = true := decide_eq_true h8
  have q9 : decide (mi < 60) = true := decide_eq_true h9
  have q10 : decide (0 ≤ s) = true := decide_eq_true h10
  have q11 : decide (s < 60) = true := decide_eq_true h11
  have q12 : decide (0 ≤ na) = true := decide_eq_true h12
  have q13 : decide (na < 1000000000) = true := decide_eq_true h13
  have q14 : decide (-1440 < a) = true := decide_eq_true h14
  have q15 : decide (a < 1440) = false := decide_eq_false h15
  clear h0 h1 h2 h3 h4 h5 h6 h7 h8 h9 h10 h11 h12 h13 h14 h15
  go_enter Try.func53, Try.ntmps53
  go_wp2_with (((with_reducible refine gate_dst (N := 1) rfl ?_); refine box_event ?hg (N := 1) ?hd (cs := #[.int .i64 y, .int .i64 mo, .int .i64 d, .int .i64 h, .int .i64 mi, .int .i64 s, .int .i64 na, .int .i64 a]) (t := 44) ?hr ?_; (case hd => rfl); (case hg => rfl); (case hr => first | (go_simp; done) | (go_simp; rfl)); intro gb hg w3 hbox hb; have c0 := (blk_cell hbox 0).trans (show _ = some (.int .i64 y) from rfl); have c1 := (blk_cell hbox 1).trans (show _ = some (.int .i64 mo) from rfl); have c2 := (blk_cell hbox 2).trans (show _ = some (.int .i64 d) from rfl); have c3 := (blk_cell hbox 3).trans (show _ = some (.int .i64 h) from rfl); have c4 := (blk_cell hbox 4).trans (show _ = some (.int .i64 mi) from rfl); have c5 := (blk_cell hbox 5).trans (show _ = some (.int .i64 s) from rfl); have c6 := (blk_cell hbox 6).trans (show _ = some (.int .i64 na) from rfl); have c7 := (blk_cell hbox 7).trans (show _ = some (.int .i64 a) from rfl); have HB2 := Aside0.mk (below_step HB.out hb); clear hbox hb; clear hg))
  refine wp_quiet_of (ops0 := opsOf Try.f53 1) (by kernel_rfl) (by kernel_rfl) lex53 ?_
  simp only [app_cons_, app_nil_]
  repeat (go_big_quiet_step ((go_at_call 83; exact Calls.quiet_of ((days_any y mo _).mono fun _ _ ⟨he, ⟨h⟩⟩ => ⟨he, h⟩))))
  refine wpQuiet_nil ?_
  intro _ hw'
  obtain ⟨nq, hw''⟩ := hw'
  subst hw''
  go_wp2
  go_ret
  exact ⟨rfl, by repeat (first | exact HB2.out | apply pw_below_drewN)⟩
set_option maxHeartbeats 8000000 in
set_option maxRecDepth 100000 in
theorem Right_16 (y mo d h mi s na a : Int) (w : World) (h0 : 0 ≤ y) (h1 : y ≤ 9999) (h2 : 1 ≤ mo) (h3 : mo ≤ 12) (h4 : 1 ≤ d) (h5 : d ≤ daysI y mo) (h6 : 0 ≤ h) (h7 : h < 24) (h8 : 0 ≤ mi) (h9 : mi < 60) (h10 : 0 ≤ s) (h11 : s < 60) (h12 : 0 ≤ na) (h13 : na < 1000000000) (h14 : -1440 < a) (h15 : a < 1440) :
    Calls Try.prog 53 #[.agg #[.int .i64 y, .int .i64 mo, .int .i64 d, .int .i64 h, .int .i64 mi, .int .i64 s, .int .i64 na, .int .i64 a]] w (RightTo w true) := by
  have HB := Aside0.mk (Below.refl w.heap.size w)
  have hu := Try.underlying44
  have q0 : decide (0 ≤ y) = true := decide_eq_true h0
  have q1 : decide (y ≤ 9999) = true := decide_eq_true h1
  have q2 : decide (1 ≤ mo) = true := decide_eq_true h2
  have q3 : decide (mo ≤ 12) = true := decide_eq_true h3
  have q4 : decide (1 ≤ d) = true := decide_eq_true h4
  have q5 : decide (d ≤ daysI y mo) = true := decide_eq_true h5
  have q6 : decide (0 ≤ h) = true := decide_eq_true h6
  have q7 : decide (h < 24) = true := decide_eq_true h7
  have q8 : decide (0 ≤ mi) = true := decide_eq_true h8
  have q9 : decide (mi < 60) = true := decide_eq_true h9
  have q10 : decide (0 ≤ s) = true := decide_eq_true h10
  have q11 : decide (s < 60) = true := decide_eq_true h11
  have q12 : decide (0 ≤ na) = true := decide_eq_true h12
  have q13 : decide (na < 1000000000) = true := decide_eq_true h13
  have q14 : decide (-1440 < a) = true := decide_eq_true h14
  have q15 : decide (a < 1440) = true := decide_eq_true h15
  clear h0 h1 h2 h3 h4 h5 h6 h7 h8 h9 h10 h11 h12 h13 h14 h15
  go_enter Try.func53, Try.ntmps53
  go_wp2_with (((with_reducible refine gate_dst (N := 1) rfl ?_); refine box_event ?hg (N := 1) ?hd (cs := #[.int .i64 y, .int .i64 mo, .int .i64 d, .int .i64 h, .int .i64 mi, .int .i64 s, .int .i64 na, .int .i64 a]) (t := 44) ?hr ?_; (case hd => rfl); (case hg => rfl); (case hr => first | (go_simp; done) | (go_simp; rfl)); intro gb hg w3 hbox hb; have c0 := (blk_cell hbox 0).trans (show _ = some (.int .i64 y) from rfl); have c1 := (blk_cell hbox 1).trans (show _ = some (.int .i64 mo) from rfl); have c2 := (blk_cell hbox 2).trans (show _ = some (.int .i64 d) from rfl); have c3 := (blk_cell hbox 3).trans (show _ = some (.int .i64 h) from rfl); have c4 := (blk_cell hbox 4).trans (show _ = some (.int .i64 mi) from rfl); have c5 := (blk_cell hbox 5).trans (show _ = some (.int .i64 s) from rfl); have c6 := (blk_cell hbox 6).trans (show _ = some (.int .i64 na) from rfl); have c7 := (blk_cell hbox 7).trans (show _ = some (.int .i64 a) from rfl); have HB2 := Aside0.mk (below_step HB.out hb); clear hbox hb; clear hg))
  refine wp_quiet_of (ops0 := opsOf Try.f53 1) (by kernel_rfl) (by kernel_rfl) lex53 ?_
  simp only [app_cons_, app_nil_]
  repeat (go_big_quiet_step ((go_at_call 83; exact Calls.quiet_of ((days_any y mo _).mono fun _ _ ⟨he, ⟨h⟩⟩ => ⟨he, h⟩))))
  refine wpQuiet_nil ?_
  intro _ hw'
  obtain ⟨nq, hw''⟩ := hw'
  subst hw''
  go_wp2
  go_ret
  exact ⟨rfl, by repeat (first | exact HB2.out | apply pw_below_drewN)⟩
theorem Right_any (y mo d h mi s na a : Int) (w : World) : Calls Try.prog 53 #[.agg #[.int .i64 y, .int .i64 mo, .int .i64 d, .int .i64 h, .int .i64 mi, .int .i64 s, .int .i64 na, .int .i64 a]] w (RightTo w (rightB y mo d h mi s na a)) := by
  by_cases h0 : 0 ≤ y
  case neg =>
    have hb : rightB y mo d h mi s na a = false := by
      unfold rightB
      rw [decide_eq_false h0]
      simp
    rw [hb]; exact Right_0 y mo d h mi s na a w h0
  by_cases h1 : y ≤ 9999
  case neg =>
    have hb : rightB y mo d h mi s na a = false := by
      unfold rightB
      rw [decide_eq_false h1]
      simp
    rw [hb]; exact Right_1 y mo d h mi s na a w h0 h1
  by_cases h2 : 1 ≤ mo
  case neg =>
    have hb : rightB y mo d h mi s na a = false := by
      unfold rightB
      rw [decide_eq_false h2]
      simp
    rw [hb]; exact Right_2 y mo d h mi s na a w h0 h1 h2
  by_cases h3 : mo ≤ 12
  case neg =>
    have hb : rightB y mo d h mi s na a = false := by
      unfold rightB
      rw [decide_eq_false h3]
      simp
    rw [hb]; exact Right_3 y mo d h mi s na a w h0 h1 h2 h3
  by_cases h4 : 1 ≤ d
  case neg =>
    have hb : rightB y mo d h mi s na a = false := by
      unfold rightB
      rw [decide_eq_false h4]
      simp
    rw [hb]; exact Right_4 y mo d h mi s na a w h0 h1 h2 h3 h4
  by_cases h5 : d ≤ daysI y mo
  case neg =>
    have hb : rightB y mo d h mi s na a = false := by
      unfold rightB
      rw [decide_eq_false h5]
      simp
    rw [hb]; exact Right_5 y mo d h mi s na a w h0 h1 h2 h3 h4 h5
  by_cases h6 : 0 ≤ h
  case neg =>
    have hb : rightB y mo d h mi s na a = false := by
      unfold rightB
      rw [decide_eq_false h6]
      simp
    rw [hb]; exact Right_6 y mo d h mi s na a w h0 h1 h2 h3 h4 h5 h6
  by_cases h7 : h < 24
  case neg =>
    have hb : rightB y mo d h mi s na a = false := by
      unfold rightB
      rw [decide_eq_false h7]
      simp
    rw [hb]; exact Right_7 y mo d h mi s na a w h0 h1 h2 h3 h4 h5 h6 h7
  by_cases h8 : 0 ≤ mi
  case neg =>
    have hb : rightB y mo d h mi s na a = false := by
      unfold rightB
      rw [decide_eq_false h8]
      simp
    rw [hb]; exact Right_8 y mo d h mi s na a w h0 h1 h2 h3 h4 h5 h6 h7 h8
  by_cases h9 : mi < 60
  case neg =>
    have hb : rightB y mo d h mi s na a = false := by
      unfold rightB
      rw [decide_eq_false h9]
      simp
    rw [hb]; exact Right_9 y mo d h mi s na a w h0 h1 h2 h3 h4 h5 h6 h7 h8 h9
  by_cases h10 : 0 ≤ s
  case neg =>
    have hb : rightB y mo d h mi s na a = false := by
      unfold rightB
      rw [decide_eq_false h10]
      simp
    rw [hb]; exact Right_10 y mo d h mi s na a w h0 h1 h2 h3 h4 h5 h6 h7 h8 h9 h10
  by_cases h11 : s < 60
  case neg =>
    have hb : rightB y mo d h mi s na a = false := by
      unfold rightB
      rw [decide_eq_false h11]
      simp
    rw [hb]; exact Right_11 y mo d h mi s na a w h0 h1 h2 h3 h4 h5 h6 h7 h8 h9 h10 h11
  by_cases h12 : 0 ≤ na
  case neg =>
    have hb : rightB y mo d h mi s na a = false := by
      unfold rightB
      rw [decide_eq_false h12]
      simp
    rw [hb]; exact Right_12 y mo d h mi s na a w h0 h1 h2 h3 h4 h5 h6 h7 h8 h9 h10 h11 h12
  by_cases h13 : na < 1000000000
  case neg =>
    have hb : rightB y mo d h mi s na a = false := by
      unfold rightB
      rw [decide_eq_false h13]
      simp
    rw [hb]; exact Right_13 y mo d h mi s na a w h0 h1 h2 h3 h4 h5 h6 h7 h8 h9 h10 h11 h12 h13
  by_cases h14 : -1440 < a
  case neg =>
    have hb : rightB y mo d h mi s na a = false := by
      unfold rightB
      rw [decide_eq_false h14]
      simp
    rw [hb]; exact Right_14 y mo d h mi s na a w h0 h1 h2 h3 h4 h5 h6 h7 h8 h9 h10 h11 h12 h13 h14
  by_cases h15 : a < 1440
  case neg =>
    have hb : rightB y mo d h mi s na a = false := by
      unfold rightB
      rw [decide_eq_false h15]
      simp
    rw [hb]; exact Right_15 y mo d h mi s na a w h0 h1 h2 h3 h4 h5 h6 h7 h8 h9 h10 h11 h12 h13 h14 h15
  have hb : rightB y mo d h mi s na a = true := by
    unfold rightB
    simp only [decide_eq_true h0, decide_eq_true h1, decide_eq_true h2, decide_eq_true h3, decide_eq_true h4, decide_eq_true h5, decide_eq_true h6, decide_eq_true h7, decide_eq_true h8, decide_eq_true h9, decide_eq_true h10, decide_eq_true h11, decide_eq_true h12, decide_eq_true h13, decide_eq_true h14, decide_eq_true h15, Bool.and_self]
  rw [hb]; exact Right_16 y mo d h mi s na a w h0 h1 h2 h3 h4 h5 h6 h7 h8 h9 h10 h11 h12 h13 h14 h15
end

def spec_Clock_Right.f (a0_0 : Int) (a0_1 : Int) (a0_2 : Int) (a0_3 : Int) (a0_4 : Int) (a0_5 : Int) (a0_6 : Int) (a0_7 : Int) : Option Bool := some (rightB a0_0 a0_1 a0_2 a0_3 a0_4 a0_5 a0_6 a0_7)
theorem spec_Clock_Right.calls (a0_0 : Int) (a0_1 : Int) (a0_2 : Int) (a0_3 : Int) (a0_4 : Int) (a0_5 : Int) (a0_6 : Int) (a0_7 : Int) (r : Bool) (w : World) (h : spec_Clock_Right.f a0_0 a0_1 a0_2 a0_3 a0_4 a0_5 a0_6 a0_7 = some r) :
    Calls Try.prog 53 #[.agg #[.int .i64 a0_0, .int .i64 a0_1, .int .i64 a0_2, .int .i64 a0_3, .int .i64 a0_4, .int .i64 a0_5, .int .i64 a0_6, .int .i64 a0_7]] w fun e w' => e = .returned (.bool r) ∧ Below w.heap.size w w' := by
  obtain rfl := Option.some.inj h
  exact Right_any a0_0 a0_1 a0_2 a0_3 a0_4 a0_5 a0_6 a0_7 w

end Go.Proofs.Ytmiemfgcggkbnaa.QG
