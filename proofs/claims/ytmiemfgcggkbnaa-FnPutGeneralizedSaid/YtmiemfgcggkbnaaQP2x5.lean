-- Written by a program of this work (wip/patch_print.py) for this claim.
import Derived.Test.YtmiemfgcggkbnaaQP2x0
import Derived.Test.YtmiemfgcggkbnaaQP2x2
import Derived.Test.YtmiemfgcggkbnaaQP2x3
import Derived.Test.YtmiemfgcggkbnaaQP2x4
namespace Go.Proofs.Ytmiemfgcggkbnaa.QP2
open Go.RowKit Go.Proofs.YtmiemfgcggkbnaaW.PrintWords Go.Proofs.YtmiemfgcggkbnaaW.PrintLast Go.Proofs.YtmiemfgcggkbnaaW.PrintMore
attribute [local go_sem] max2_int min2_int max_two min_two max_three min_three max_four min_four   -- for this text's walks alone
set_option linter.unusedVariables false
set_option linter.unusedSimpArgs false

section
open Go.BigFrame
set_option linter.unusedSimpArgs false
set_option maxHeartbeats 8000000 in
set_option maxRecDepth 100000 in
theorem ZZGeneralized_good (A0 : Option Addr) (c0 : Nat) (l : List Int) (y mo d h mi s na a : Int) (w : World) (hp : ∀ W, Below w.heap.size w W → Calls Try.prog 85 #[.slice A0 l.length c0] W (PGood W y mo d h mi s na a)) : Calls Try.prog 57 #[.slice A0 l.length c0] w (PGood w y mo d h mi s na a) := by
  have HP := Aside0.mk hp
  have HB0 := Aside0.mk (Below.refl w.heap.size w)
  clear hp
  go_enter Try.func57, Try.ntmps57
  go_wp2_with (first
    | ((with_reducible refine gate_dst (N := 2) rfl ?_); refine box_event ?hg (N := 2) ?hd (cs := #[.int .i64 0, .int .i64 0, .int .i64 0, .int .i64 0, .int .i64 0, .int .i64 0, .int .i64 0, .int .i64 0]) (t := 87) ?hr ?_; (case hd => rfl); (case hg => rfl); (case hr => first | (go_simp; done) | (go_simp; rfl)); intro g2 hg w1 hbox hb; have BR1 := Aside0.mk hbox; have HB1 := Aside0.mk (below_step HB0.out hb); have GR := Aside0.mk (show w.heap.size ≤ g2 by rw [hg]; exact Nat.le_refl _); clear hbox hb hg)
    | (go_at_call 85; (with_reducible refine (HP.out w1 HB1.out).mono ?_); rintro e w2 ⟨rfl, hb⟩; have BR2 := Aside0.mk (blk_below BR1.out hb); have HB2 := Aside0.mk (below_step HB1.out hb); clear hb; have cr0 := (blk_cell BR2.out 0).trans (show _ = some (.int .i64 0) from rfl); have crf0 := blk_frozen BR2.out 0; have cr1 := (blk_cell BR2.out 1).trans (show _ = some (.int .i64 0) from rfl); have crf1 := blk_frozen BR2.out 1; have cr2 := (blk_cell BR2.out 2).trans (show _ = some (.int .i64 0) from rfl); have crf2 := blk_frozen BR2.out 2; have cr3 := (blk_cell BR2.out 3).trans (show _ = some (.int .i64 0) from rfl); have crf3 := blk_frozen BR2.out 3; have cr4 := (blk_cell BR2.out 4).trans (show _ = some (.int .i64 0) from rfl); have crf4 := blk_frozen BR2.out 4; have cr5 := (blk_cell BR2.out 5).trans (show _ = some (.int .i64 0) from rfl); have crf5 := blk_frozen BR2.out 5; have cr6 := (blk_cell BR2.out 6).trans (show _ = some (.int .i64 0) from rfl); have crf6 := blk_frozen BR2.out 6; have cr7 := (blk_cell BR2.out 7).trans (show _ = some (.int .i64 0) from rfl); have crf7 := blk_frozen BR2.out 7)
    | ((with_reducible refine gate_store (t := 87) (p := 2) rfl ?_); refine store_event (t := 87) (p := 2) (v := ?vo2) (w1 := put8 w2 g2 (.int .i64 y) (.int .i64 mo) (.int .i64 d) (.int .i64 h) (.int .i64 mi) (.int .i64 s) (.int .i64 na) (.int .i64 a)) ?hg ?ho ?hn ?hr ?_; (case ho => rfl); (case hg => rfl); (case hn => rfl); (case hr => first | (go_simp; done) | (go_simp; rfl)); intro w9 hw; have BX := Aside0.mk (show w9.heap[g2]? = some (.cells #[.int .i64 y, .int .i64 mo, .int .i64 d, .int .i64 h, .int .i64 mi, .int .i64 s, .int .i64 na, .int .i64 a] 87 (0, 0)) from by rw [hw]; exact put8_blk BR2.out (.int .i64 y) (.int .i64 mo) (.int .i64 d) (.int .i64 h) (.int .i64 mi) (.int .i64 s) (.int .i64 na) (.int .i64 a)); have HX := Aside0.mk (show Below w.heap.size w w9 from by rw [hw]; exact HB2.out.grown (put8_grown w2 g2 (.int .i64 y) (.int .i64 mo) (.int .i64 d) (.int .i64 h) (.int .i64 mi) (.int .i64 s) (.int .i64 na) (.int .i64 a)) (below_size HB2.out) (fun q hq => by cases hq; exact GR.out)); clear hw))
  refine bodyPost_ret (results_ct rfl _ _ g2 87 #[.int .i64 y, .int .i64 mo, .int .i64 d, .int .i64 h, .int .i64 mi, .int .i64 s, .int .i64 na, .int .i64 a] (0, 0) _ rfl BX.out Try.underlying87 rfl (by kernel_rfl)) rfl ?_
  exact ⟨rfl, HX.out⟩
set_option maxHeartbeats 8000000 in
set_option maxRecDepth 100000 in
theorem ZZGeneralized_bad (A0 : Option Addr) (c0 : Nat) (l : List Int) (y mo d h mi s na a : Int) (w : World) (hp : ∀ W, Below w.heap.size w W → Calls Try.prog 85 #[.slice A0 l.length c0] W (PBad W)) : Calls Try.prog 57 #[.slice A0 l.length c0] w (PBad w) := by
  have HP := Aside0.mk hp
  have HB0 := Aside0.mk (Below.refl w.heap.size w)
  clear hp
  go_enter Try.func57, Try.ntmps57
  go_wp2_with (first
    | ((with_reducible refine gate_dst (N := 2) rfl ?_); refine box_event ?hg (N := 2) ?hd (cs := #[.int .i64 0, .int .i64 0, .int .i64 0, .int .i64 0, .int .i64 0, .int .i64 0, .int .i64 0, .int .i64 0]) (t := 87) ?hr ?_; (case hd => rfl); (case hg => rfl); (case hr => first | (go_simp; done) | (go_simp; rfl)); intro g2 hg w1 hbox hb; have BR1 := Aside0.mk hbox; have HB1 := Aside0.mk (below_step HB0.out hb); have GR := Aside0.mk (show w.heap.size ≤ g2 by rw [hg]; exact Nat.le_refl _); clear hbox hb hg)
    | (go_at_call 85; (with_reducible refine (HP.out w1 HB1.out).mono ?_); rintro e w2 ⟨T, x, rfl, hb⟩; have BR2 := Aside0.mk (blk_below BR1.out hb); have HB2 := Aside0.mk (below_step HB1.out hb); clear hb; have cr0 := (blk_cell BR2.out 0).trans (show _ = some (.int .i64 0) from rfl); have crf0 := blk_frozen BR2.out 0; have cr1 := (blk_cell BR2.out 1).trans (show _ = some (.int .i64 0) from rfl); have crf1 := blk_frozen BR2.out 1; have cr2 := (blk_cell BR2.out 2).trans (show _ = some (.int .i64 0) from rfl); have crf2 := blk_frozen BR2.out 2; have cr3 := (blk_cell BR2.out 3).trans (show _ = some (.int .i64 0) from rfl); have crf3 := blk_frozen BR2.out 3; have cr4 := (blk_cell BR2.out 4).trans (show _ = some (.int .i64 0) from rfl); have crf4 := blk_frozen BR2.out 4; have cr5 := (blk_cell BR2.out 5).trans (show _ = some (.int .i64 0) from rfl); have crf5 := blk_frozen BR2.out 5; have cr6 := (blk_cell BR2.out 6).trans (show _ = some (.int .i64 0) from rfl); have crf6 := blk_frozen BR2.out 6; have cr7 := (blk_cell BR2.out 7).trans (show _ = some (.int .i64 0) from rfl); have crf7 := blk_frozen BR2.out 7)
    | ((with_reducible refine gate_store (t := 87) (p := 2) rfl ?_); refine store_event (t := 87) (p := 2) (v := ?vo2) (w1 := put8 w2 g2 (.int .i64 0) (.int .i64 0) (.int .i64 0) (.int .i64 0) (.int .i64 0) (.int .i64 0) (.int .i64 0) (.int .i64 0)) ?hg ?ho ?hn ?hr ?_; (case ho => rfl); (case hg => rfl); (case hn => rfl); (case hr => first | (go_simp; done) | (go_simp; rfl)); intro w9 hw; have BX := Aside0.mk (show w9.heap[g2]? = some (.cells #[.int .i64 0, .int .i64 0, .int .i64 0, .int .i64 0, .int .i64 0, .int .i64 0, .int .i64 0, .int .i64 0] 87 (0, 0)) from by rw [hw]; exact put8_blk BR2.out (.int .i64 0) (.int .i64 0) (.int .i64 0) (.int .i64 0) (.int .i64 0) (.int .i64 0) (.int .i64 0) (.int .i64 0)); have HX := Aside0.mk (show Below w.heap.size w w9 from by rw [hw]; exact HB2.out.grown (put8_grown w2 g2 (.int .i64 0) (.int .i64 0) (.int .i64 0) (.int .i64 0) (.int .i64 0) (.int .i64 0) (.int .i64 0) (.int .i64 0)) (below_size HB2.out) (fun q hq => by cases hq; exact GR.out)); clear hw))
  refine bodyPost_ret (results_ct rfl _ _ g2 87 #[.int .i64 0, .int .i64 0, .int .i64 0, .int .i64 0, .int .i64 0, .int .i64 0, .int .i64 0, .int .i64 0] (0, 0) _ rfl BX.out Try.underlying87 rfl (by kernel_rfl)) rfl ?_
  exact ⟨T, x, rfl, HX.out⟩
end

section
open Go.BigFrame
set_option linter.unusedSimpArgs false
set_option maxHeartbeats 8000000 in
set_option maxRecDepth 100000 in
theorem ReadGeneralized_good (A0 : Option Addr) (c0 : Nat) (l : List Int) (y mo d h mi s na a : Int) (w : World) (hr0 : Kd.C (Kd.int .u8) w A0 l.length l) (hc0 : l.length ≤ c0) (hl : l.length ≤ 10000) (hp : ∀ (A1 : Option Addr) (c1 : Nat) (W : World), Kd.C (Kd.int .u8) W A1 l.length l → l.length ≤ c1 → Calls Try.prog 57 #[.slice A1 l.length c1] W (PGood W y mo d h mi s na a)) : Calls Try.prog 29 #[.slice A0 l.length c0] w (TGood w y mo d h mi s na a) := by
  have HP := Aside0.mk hp
  have HR0 := Aside0.mk hr0
  have HC0 := Aside0.mk hc0
  have HS := Aside0.mk (show impl_short.f l = some true by simp [impl_short.f]; omega)
  have HQ := Aside0.mk (show impl_copied.f l = some l by simp [impl_copied.f]; omega)
  have HB0 := Aside0.mk (Below.refl w.heap.size w)
  clear hp hr0 hc0 hl
  go_enter Try.func29, Try.ntmps29
  go_wp2_with (first
    | ((with_reducible refine gate_dst (N := 2) rfl ?_); refine box_event ?hg (N := 2) ?hd (cs := #[.int .i64 0, .int .i64 0, .int .i64 0, .int .i64 0, .int .i64 0, .int .i64 0, .int .i64 0, .int .i64 0]) (t := 47) ?hr ?_; (case hd => rfl); (case hg => rfl); (case hr => first | (go_simp; done) | (go_simp; rfl)); intro g2 hg w1 hbox hb; have BR1 := Aside0.mk hbox; have HB1 := Aside0.mk (below_step HB0.out hb); have GR := Aside0.mk (show w.heap.size ≤ g2 by rw [hg]; exact Nat.le_refl _); clear hbox hb hg)
    | (go_at_call 48; (with_reducible refine (impl_short.calls _ _ l true _ (Kd.C_below HR0.out HB1.out) HC0.out HS.out).mono ?_); rintro e w2 ⟨rfl, hd⟩; have BR2 := Aside0.mk (blk_below BR1.out hd.below); have HB2 := Aside0.mk (below_step HB1.out hd.below); clear hd)
    | (go_at_call 44; (with_reducible refine (impl_copied.calls _ _ l l _ (Kd.C_below HR0.out HB2.out) HC0.out HQ.out).mono ?_); rintro e w3 ⟨v0, rfl, ho, hb⟩; have BR3 := Aside0.mk (blk_below BR2.out hb); have HB3 := Aside0.mk (below_step HB2.out hb); obtain ⟨A5, c5, e5, hc5, hr5⟩ := Kd.R_reads ho; subst e5; have HR5 := Aside0.mk hr5; have HC5 := Aside0.mk hc5; clear hb ho hr5 hc5)
    | (go_at_call 57; (with_reducible refine (HP.out A5 c5 w3 HR5.out HC5.out).mono ?_); rintro e w4 ⟨rfl, hb⟩; have BR4 := Aside0.mk (blk_below BR3.out hb); have HB4 := Aside0.mk (below_step HB3.out hb); clear hb)
    | (go_at_call 54; (with_reducible refine (told_good y mo d h mi s na a _).mono ?_); rintro e w5 ⟨rfl, hb⟩; have BR5 := Aside0.mk (blk_below BR4.out hb); have HB5 := Aside0.mk (below_step HB4.out hb); clear hb; have cr0 := (blk_cell BR5.out 0).trans (show _ = some (.int .i64 0) from rfl); have crf0 := blk_frozen BR5.out 0; have cr1 := (blk_cell BR5.out 1).trans (show _ = some (.int .i64 0) from rfl); have crf1 := blk_frozen BR5.out 1; have cr2 := (blk_cell BR5.out 2).trans (show _ = some (.int .i64 0) from rfl); have crf2 := blk_frozen BR5.out 2; have cr3 := (blk_cell BR5.out 3).trans (show _ = some (.int .i64 0) from rfl); have crf3 := blk_frozen BR5.out 3; have cr4 := (blk_cell BR5.out 4).trans (show _ = some (.int .i64 0) from rfl); have crf4 := blk_frozen BR5.out 4; have cr5 := (blk_cell BR5.out 5).trans (show _ = some (.int .i64 0) from rfl); have crf5 := blk_frozen BR5.out 5; have cr6 := (blk_cell BR5.out 6).trans (show _ = some (.int .i64 0) from rfl); have crf6 := blk_frozen BR5.out 6; have cr7 := (blk_cell BR5.out 7).trans (show _ = some (.int .i64 0) from rfl); have crf7 := blk_frozen BR5.out 7)
    | ((with_reducible refine gate_store (t := 47) (p := 2) rfl ?_); refine store_event (t := 47) (p := 2) (v := ?vo2) (w1 := put8 w5 g2 (.int .i64 y) (.int .i64 mo) (.int .i64 d) (.int .i64 h) (.int .i64 mi) (.int .i64 s) (.int .i64 na) (.int .i64 a)) ?hg ?ho ?hn ?hr ?_; (case ho => rfl); (case hg => rfl); (case hn => rfl); (case hr => first | (go_simp; done) | (go_simp; rfl)); intro w9 hw; have BX := Aside0.mk (show w9.heap[g2]? = some (.cells #[.int .i64 y, .int .i64 mo, .int .i64 d, .int .i64 h, .int .i64 mi, .int .i64 s, .int .i64 na, .int .i64 a] 47 (0, 0)) from by rw [hw]; exact put8_blk BR5.out (.int .i64 y) (.int .i64 mo) (.int .i64 d) (.int .i64 h) (.int .i64 mi) (.int .i64 s) (.int .i64 na) (.int .i64 a)); have HX := Aside0.mk (show Below w.heap.size w w9 from by rw [hw]; exact HB5.out.grown (put8_grown w5 g2 (.int .i64 y) (.int .i64 mo) (.int .i64 d) (.int .i64 h) (.int .i64 mi) (.int .i64 s) (.int .i64 na) (.int .i64 a)) (below_size HB5.out) (fun q hq => by cases hq; exact GR.out)); clear hw))
  refine bodyPost_ret (results_ct rfl _ _ g2 47 #[.int .i64 y, .int .i64 mo, .int .i64 d, .int .i64 h, .int .i64 mi, .int .i64 s, .int .i64 na, .int .i64 a] (0, 0) _ rfl BX.out Try.underlying47 rfl (by kernel_rfl)) rfl ?_
  exact ⟨rfl, HX.out⟩
set_option maxHeartbeats 8000000 in
set_option maxRecDepth 100000 in
theorem ReadGeneralized_bad (A0 : Option Addr) (c0 : Nat) (l : List Int) (y mo d h mi s na a : Int) (w : World) (hr0 : Kd.C (Kd.int .u8) w A0 l.length l) (hc0 : l.length ≤ c0) (hl : l.length ≤ 10000) (hp : ∀ (A1 : Option Addr) (c1 : Nat) (W : World), Kd.C (Kd.int .u8) W A1 l.length l → l.length ≤ c1 → Calls Try.prog 57 #[.slice A1 l.length c1] W (PBad W)) : Calls Try.prog 29 #[.slice A0 l.length c0] w (TBad w) := by
  have HP := Aside0.mk hp
  have HR0 := Aside0.mk hr0
  have HC0 := Aside0.mk hc0
  have HS := Aside0.mk (show impl_short.f l = some true by simp [impl_short.f]; omega)
  have HQ := Aside0.mk (show impl_copied.f l = some l by simp [impl_copied.f]; omega)
  have HB0 := Aside0.mk (Below.refl w.heap.size w)
  clear hp hr0 hc0 hl
  go_enter Try.func29, Try.ntmps29
  go_wp2_with (first
    | ((with_reducible refine gate_dst (N := 2) rfl ?_); refine box_event ?hg (N := 2) ?hd (cs := #[.int .i64 0, .int .i64 0, .int .i64 0, .int .i64 0, .int .i64 0, .int .i64 0, .int .i64 0, .int .i64 0]) (t := 47) ?hr ?_; (case hd => rfl); (case hg => rfl); (case hr => first | (go_simp; done) | (go_simp; rfl)); intro g2 hg w1 hbox hb; have BR1 := Aside0.mk hbox; have HB1 := Aside0.mk (below_step HB0.out hb); have GR := Aside0.mk (show w.heap.size ≤ g2 by rw [hg]; exact Nat.le_refl _); clear hbox hb hg)
    | (go_at_call 48; (with_reducible refine (impl_short.calls _ _ l true _ (Kd.C_below HR0.out HB1.out) HC0.out HS.out).mono ?_); rintro e w2 ⟨rfl, hd⟩; have BR2 := Aside0.mk (blk_below BR1.out hd.below); have HB2 := Aside0.mk (below_step HB1.out hd.below); clear hd)
    | (go_at_call 44; (with_reducible refine (impl_copied.calls _ _ l l _ (Kd.C_below HR0.out HB2.out) HC0.out HQ.out).mono ?_); rintro e w3 ⟨v0, rfl, ho, hb⟩; have BR3 := Aside0.mk (blk_below BR2.out hb); have HB3 := Aside0.mk (below_step HB2.out hb); obtain ⟨A5, c5, e5, hc5, hr5⟩ := Kd.R_reads ho; subst e5; have HR5 := Aside0.mk hr5; have HC5 := Aside0.mk hc5; clear hb ho hr5 hc5)
    | (go_at_call 57; (with_reducible refine (HP.out A5 c5 w3 HR5.out HC5.out).mono ?_); rintro e w4 ⟨T, x, rfl, hb⟩; have BR4 := Aside0.mk (blk_below BR3.out hb); have HB4 := Aside0.mk (below_step HB3.out hb); clear hb)
    | (go_at_call 54; (with_reducible refine (told_bad 0 0 0 0 0 0 0 0 T x _).mono ?_); rintro e w5 ⟨rfl, hb⟩; have BR5 := Aside0.mk (blk_below BR4.out hb); have HB5 := Aside0.mk (below_step HB4.out hb); clear hb; have cr0 := (blk_cell BR5.out 0).trans (show _ = some (.int .i64 0) from rfl); have crf0 := blk_frozen BR5.out 0; have cr1 := (blk_cell BR5.out 1).trans (show _ = some (.int .i64 0) from rfl); have crf1 := blk_frozen BR5.out 1; have cr2 := (blk_cell BR5.out 2).trans (show _ = some (.int .i64 0) from rfl); have crf2 := blk_frozen BR5.out 2; have cr3 := (blk_cell BR5.out 3).trans (show _ = some (.int .i64 0) from rfl); have crf3 := blk_frozen BR5.out 3; have cr4 := (blk_cell BR5.out 4).trans (show _ = some (.int .i64 0) from rfl); have crf4 := blk_frozen BR5.out 4; have cr5 := (blk_cell BR5.out 5).trans (show _ = some (.int .i64 0) from rfl); have crf5 := blk_frozen BR5.out 5; have cr6 := (blk_cell BR5.out 6).trans (show _ = some (.int .i64 0) from rfl); have crf6 := blk_frozen BR5.out 6; have cr7 := (blk_cell BR5.out 7).trans (show _ = some (.int .i64 0) from rfl); have crf7 := blk_frozen BR5.out 7)
    | ((with_reducible refine gate_store (t := 47) (p := 2) rfl ?_); refine store_event (t := 47) (p := 2) (v := ?vo2) (w1 := put8 w5 g2 (.int .i64 0) (.int .i64 0) (.int .i64 0) (.int .i64 0) (.int .i64 0) (.int .i64 0) (.int .i64 0) (.int .i64 0)) ?hg ?ho ?hn ?hr ?_; (case ho => rfl); (case hg => rfl); (case hn => rfl); (case hr => first | (go_simp; done) | (go_simp; rfl)); intro w9 hw; have BX := Aside0.mk (show w9.heap[g2]? = some (.cells #[.int .i64 0, .int .i64 0, .int .i64 0, .int .i64 0, .int .i64 0, .int .i64 0, .int .i64 0, .int .i64 0] 47 (0, 0)) from by rw [hw]; exact put8_blk BR5.out (.int .i64 0) (.int .i64 0) (.int .i64 0) (.int .i64 0) (.int .i64 0) (.int .i64 0) (.int .i64 0) (.int .i64 0)); have HX := Aside0.mk (show Below w.heap.size w w9 from by rw [hw]; exact HB5.out.grown (put8_grown w5 g2 (.int .i64 0) (.int .i64 0) (.int .i64 0) (.int .i64 0) (.int .i64 0) (.int .i64 0) (.int .i64 0) (.int .i64 0)) (below_size HB5.out) (fun q hq => by cases hq; exact GR.out)); clear hw))
  refine bodyPost_ret (results_ct rfl _ _ g2 47 #[.int .i64 0, .int .i64 0, .int .i64 0, .int .i64 0, .int .i64 0, .int .i64 0, .int .i64 0, .int .i64 0] (0, 0) _ rfl BX.out Try.underlying47 rfl (by kernel_rfl)) rfl ?_
  exact ⟨rfl, HX.out⟩
theorem ReadGeneralized_yes (A0 : Option Addr) (c0 : Nat) (l : List Int) (w : World) (hr0 : Kd.C (Kd.int .u8) w A0 l.length l) (hc0 : l.length ≤ c0) (hl : l.length ≤ 10000) (h : gOk (strOfNums l) = true) :
    Calls Try.prog 29 #[.slice A0 l.length c0] w (TGood w (dv4 (strOfNums l)) (dv2 (dr4 (strOfNums l))) (dv2 (dr2 (dr4 (strOfNums l)))) (dv2 (dr2 (dr2 (dr4 (strOfNums l))))) (dv2 (dr2 (dr2 (dr2 (dr4 (strOfNums l)))))) (dv2 (gR4 (strOfNums l))) (gNa (strOfNums l)) (zV (gRst (strOfNums l)))) :=
  ReadGeneralized_good A0 c0 l _ _ _ _ _ _ _ _ w hr0 hc0 hl fun A1 c1 W hr hc => ZZGeneralized_good A1 c1 l _ _ _ _ _ _ _ _ W fun W2 hb => parseGen_good A1 c1 l W2 (Kd.C_below hr hb) hl h
theorem ReadGeneralized_no (A0 : Option Addr) (c0 : Nat) (l : List Int) (w : World) (hr0 : Kd.C (Kd.int .u8) w A0 l.length l) (hc0 : l.length ≤ c0) (hl : l.length ≤ 10000) (h : gOk (strOfNums l) = false) :
    Calls Try.prog 29 #[.slice A0 l.length c0] w (TBad w) :=
  ReadGeneralized_bad A0 c0 l 0 0 0 0 0 0 0 0 w hr0 hc0 hl fun A1 c1 W hr hc => ZZGeneralized_bad A1 c1 l 0 0 0 0 0 0 0 0 W fun W2 hb => parseGen_bad A1 c1 l W2 (Kd.C_below hr hb) hl h
end

def impl_ReadGeneralized.f (l0 : List Int) : Option (Int × Int × Int × Int × Int × Int × Int × Int × Bool) := if l0.length ≤ 10000 then (if gOk (strOfNums l0) = true then some (dv4 (strOfNums l0), dv2 (dr4 (strOfNums l0)), dv2 (dr2 (dr4 (strOfNums l0))), dv2 (dr2 (dr2 (dr4 (strOfNums l0)))), dv2 (dr2 (dr2 (dr2 (dr4 (strOfNums l0))))), dv2 (gR4 (strOfNums l0)), gNa (strOfNums l0), zV (gRst (strOfNums l0)), true) else some (0, 0, 0, 0, 0, 0, 0, 0, false)) else none
theorem impl_ReadGeneralized.calls (A0 : Option Addr) (c0 : Nat) (l0 : List Int) (r1 : Int) (r2 : Int) (r3 : Int) (r4 : Int) (r5 : Int) (r6 : Int) (r7 : Int) (r8 : Int) (r9 : Bool) (w : World) (hr0 : Kd.C (Kd.int .u8) w A0 l0.length l0) (hc0 : l0.length ≤ c0) (h : impl_ReadGeneralized.f l0 = some (r1, r2, r3, r4, r5, r6, r7, r8, r9)) :
    Calls Try.prog 29 #[.slice A0 l0.length c0] w fun e w' => e = .returned (.tuple #[.agg #[.int .i64 r1, .int .i64 r2, .int .i64 r3, .int .i64 r4, .int .i64 r5, .int .i64 r6, .int .i64 r7, .int .i64 r8], .bool r9]) ∧ Below w.heap.size w w' := by
  unfold impl_ReadGeneralized.f at h
  by_cases hl : l0.length ≤ 10000
  · rw [if_pos hl] at h
    by_cases ho : gOk (strOfNums l0) = true
    · rw [if_pos ho] at h
      simp only [Option.some.injEq, Prod.mk.injEq] at h
      obtain ⟨rfl, rfl, rfl, rfl, rfl, rfl, rfl, rfl, rfl⟩ := h
      exact ReadGeneralized_yes A0 c0 l0 w hr0 hc0 hl ho
    · rw [if_neg ho] at h
      simp only [Option.some.injEq, Prod.mk.injEq] at h
      obtain ⟨rfl, rfl, rfl, rfl, rfl, rfl, rfl, rfl, rfl⟩ := h
      exact ReadGeneralized_no A0 c0 l0 w hr0 hc0 hl (Bool.eq_false_iff.mpr ho)
  · rw [if_neg hl] at h
    cases h

/-! ### spec_days: function 83 -/
def spec_days.j0 : Nat → Int → Int → Bool → Option (Int)
  | 0, _, _, _ => none
  | k + 1, x0, x5, x6 => if x6 = true then (some 30) else (if x5 = 2 then (if (Int.tmod x0 4) = 0 then (if (Int.tmod x0 100) = 0 then (if (Int.tmod x0 400) = 0 then (some 29) else (some 28)) else (some 29)) else (some 28)) else (some 31))
def spec_days.f (k : Nat) (a0 : Int) (a1 : Int) : Option (Int) := if a1 = 4 then (spec_days.j0 k a0 a1 (a1 == 4)) else (if a1 = 6 then (spec_days.j0 k a0 a1 (a1 == 6)) else (if a1 = 9 then (spec_days.j0 k a0 a1 (a1 == 9)) else (spec_days.j0 k a0 a1 (a1 == 11))))
theorem spec_days.mono_l : ∀ k, (∀ y0 y1 y2, LeO (spec_days.j0 k y0 y1 y2) (spec_days.j0 (k + 1) y0 y1 y2))
  | 0 => fun _ _ _ r h => by simp [spec_days.j0] at h
  | k + 1 => by
    have ih0 := spec_days.mono_l k
    · intro y0 y1 y2
      unfold spec_days.j0
      repeat' first
      | (with_reducible exact ih0 _ _ _)
      | (with_reducible exact LeO.refl _)
      | (with_reducible exact LeO.none _)
      | (with_reducible refine LeO.ite ?_ ?_)
      | (with_reducible refine LeO.bind ?_ (fun _ => ?_))
      | exact ih0 _ _ _
      | exact LeO.none _
      | refine LeO.ite ?_ ?_
      | refine LeO.bind ?_ (fun _ => ?_)
theorem spec_days.mono : ∀ a0 a1 k, LeO (spec_days.f k a0 a1) (spec_days.f (k + 1) a0 a1) := by
  intro a0 a1 k
  have ih0 := spec_days.mono_l k
  unfold spec_days.f
  repeat' first
      | (with_reducible exact ih0 _ _ _)
      | (with_reducible exact LeO.refl _)
      | (with_reducible exact LeO.none _)
      | (with_reducible refine LeO.ite ?_ ?_)
      | (with_reducible refine LeO.bind ?_ (fun _ => ?_))
      | exact ih0 _ _ _
      | exact LeO.none _
      | refine LeO.ite ?_ ?_
      | refine LeO.bind ?_ (fun _ => ?_)
set_option maxHeartbeats 8000000 in
set_option maxRecDepth 100000 in
theorem spec_days.calls (k : Nat) (a0 : Int) (a1 : Int) (r : Int) (w : World) (h : spec_days.f k a0 a1 = some r) :
    Calls Try.prog 83 #[.int .i64 a0, .int .i64 a1] w fun e w' => e = .returned (.int .i64 r) ∧ Drawn0 w w' := by
  have H : (if a1 = 4 then (spec_days.j0 k a0 a1 (a1 == 4)) else (if a1 = 6 then (spec_days.j0 k a0 a1 (a1 == 6)) else (if a1 = 9 then (spec_days.j0 k a0 a1 (a1 == 9)) else (spec_days.j0 k a0 a1 (a1 == 11))))) = some r := h
  clear h
  have HC3 := Aside0.mk H
  clear H
  go_enter Try.func83, Try.ntmps83
  go_upto_if 6 with (fail)
  go_cut [6] (fun v6 wc => ∃ (kq : Nat) (x6_2 : Bool), v6 = .bool x6_2 ∧ Aside0 (spec_days.j0 kq a0 a1 x6_2 = some r) ∧ Aside0 (kq ≤ k) ∧ Drawn0 w wc)
  case first =>
    have H := HC3.out
    clear HC3
    by_cases c4 : a1 = 4
    · rw [if_pos c4] at H
      have c4b0 : (a1 == 4) = true := beq_iff_eq.mpr c4
      have c4b1 : (a1 != 4) = false := bne_eq_false_iff_eq.mpr c4
      clear c4
      (first | rw [c4b0] | (simp only [i64_w, i32_w]; rw [c4b0]) | skip)
      have H' := Aside0.mk H
      clear H
      go_wp2
      go_meet
      case rel => exact ⟨_, ((a1 == 4)), (by first | rfl | (simp; done) | (simp [*]; done)), H', ⟨by first | omega | exact Nat.le_refl _⟩, by repeat (first | exact Drawn0.refl _ | apply Drawn0.step)⟩
    · rw [if_neg c4] at H
      have c4b0 : (a1 == 4) = false := beq_eq_false_iff_ne.mpr c4
      have c4b1 : (a1 != 4) = true := bne_iff_ne.mpr c4
      (first | rw [c4b0] | (simp only [i64_w, i32_w]; rw [c4b0]) | skip)
      by_cases c5 : a1 = 6
      · rw [if_pos c5] at H
        have c5b0 : (a1 == 6) = true := beq_iff_eq.mpr c5
        have c5b1 : (a1 != 6) = false := bne_eq_false_iff_eq.mpr c5
        clear c5
        have H' := Aside0.mk H
        clear H
        go_wp2
        go_meet
        case rel => exact ⟨_, ((a1 == 6)), (by first | rfl | (simp; done) | (simp [*]; done)), H', ⟨by first | omega | exact Nat.le_refl _⟩, by repeat (first | exact Drawn0.refl _ | apply Drawn0.step)⟩
      · rw [if_neg c5] at H
        have c5b0 : (a1 == 6) = false := beq_eq_false_iff_ne.mpr c5
        have c5b1 : (a1 != 6) = true := bne_iff_ne.mpr c5
        by_cases c6 : a1 = 9
        · rw [if_pos c6] at H
          have c6b0 : (a1 == 9) = true := beq_iff_eq.mpr c6
          have c6b1 : (a1 != 9) = false := bne_eq_false_iff_eq.mpr c6
          clear c6
          have H' := Aside0.mk H
          clear H
          go_wp2
          go_meet
          case rel => exact ⟨_, ((a1 == 9)), (by first | rfl | (simp; done) | (simp [*]; done)), H', ⟨by first | omega | exact Nat.le_refl _⟩, by repeat (first | exact Drawn0.refl _ | apply Drawn0.step)⟩
        · rw [if_neg c6] at H
          have c6b0 : (a1 == 9) = false := beq_eq_false_iff_ne.mpr c6
          have c6b1 : (a1 != 9) = true := bne_iff_ne.mpr c6
          have H' := Aside0.mk H
          clear H
          go_wp2
          go_meet
          case rel => exact ⟨_, ((a1 == 11)), (by first | rfl | (simp; done) | (simp [*]; done)), H', ⟨by first | omega | exact Nat.le_refl _⟩, by repeat (first | exact Drawn0.refl _ | apply Drawn0.step)⟩
  case rest =>
    clear HC3
    try clear p2
    try clear c4
    try clear c4b0
    try clear c4b1
    try clear c5
    try clear c5b0
    try clear c5b1
    try clear c6
    try clear c6b0
    try clear c6b1
    obtain ⟨kq, x6_2, rfl, HA, HJ2, ⟨mc2, rfl⟩⟩ := hcut
    cases kq with
    | zero => exact absurd HA.out (by simp [spec_days.j0])
    | succ kj2 =>
      have H := HA.out
      clear HA
      simp only [spec_days.j0] at H
      by_cases c7 : x6_2 = true
      · subst c7
        have H1 : (some 30) = some r := by rw [if_pos rfl] at H; exact H
        clear H
        have H := H1
        clear H1
        obtain rfl := Option.some.inj H
        go_wp2
        go_ret
        exact ⟨by first | rfl | (simp; done) | (simp [*]; done), by repeat (first | exact Drawn0.refl _ | apply Drawn0.step)⟩
      · replace c7 := Bool.eq_false_iff.mpr c7
        subst c7
        have H1 : (if a1 = 2 then (if (Int.tmod a0 4) = 0 then (if (Int.tmod a0 100) = 0 then (if (Int.tmod a0 400) = 0 then (some 29) else (some 28)) else (some 29)) else (some 28)) else (some 31)) = some r := by rw [if_neg (show ¬ (false = true) by decide)] at H; exact H
        clear H
        have H := H1
        clear H1
        by_cases c8 : a1 = 2
        · rw [if_pos c8] at H
          have c8b0 : (a1 == 2) = true := beq_iff_eq.mpr c8
          have c8b1 : (a1 != 2) = false := bne_eq_false_iff_eq.mpr c8
          clear c8
          by_cases c9 : (Int.tmod a0 4) = 0
          · rw [if_pos c9] at H
            have c9b0 : ((Int.tmod a0 4) == 0) = true := beq_iff_eq.mpr c9
            have c9b1 : ((Int.tmod a0 4) != 0) = false := bne_eq_false_iff_eq.mpr c9
            clear c9
            by_cases c10 : (Int.tmod a0 100) = 0
            · rw [if_pos c10] at H
              have c10b0 : ((Int.tmod a0 100) == 0) = true := beq_iff_eq.mpr c10
              have c10b1 : ((Int.tmod a0 100) != 0) = false := bne_eq_false_iff_eq.mpr c10
              clear c10
              by_cases c11 : (Int.tmod a0 400) = 0
              · rw [if_pos c11] at H
                have c11b0 : ((Int.tmod a0 400) == 0) = true := beq_iff_eq.mpr c11
                have c11b1 : ((Int.tmod a0 400) != 0) = false := bne_eq_false_iff_eq.mpr c11
                clear c11
                obtain rfl := Option.some.inj H
                go_wp2
                go_ret
                exact ⟨by first | rfl | (simp; done) | (simp [*]; done), by repeat (first | exact Drawn0.refl _ | apply Drawn0.step)⟩
              · rw [if_neg c11] at H
                have c11b0 : ((Int.tmod a0 400) == 0) = false := beq_eq_false_iff_ne.mpr c11
                have c11b1 : ((Int.tmod a0 400) != 0) = true := bne_iff_ne.mpr c11
                obtain rfl := Option.some.inj H
                go_wp2
                go_ret
                exact ⟨by first | rfl | (simp; done) | (simp [*]; done), by repeat (first | exact Drawn0.refl _ | apply Drawn0.step)⟩
            · rw [if_neg c10] at H
              have c10b0 : ((Int.tmod a0 100) == 0) = false := beq_eq_false_iff_ne.mpr c10
              have c10b1 : ((Int.tmod a0 100) != 0) = true := bne_iff_ne.mpr c10
              obtain rfl := Option.some.inj H
              go_wp2
              go_ret
              exact ⟨by first | rfl | (simp; done) | (simp [*]; done), by repeat (first | exact Drawn0.refl _ | apply Drawn0.step)⟩
          · rw [if_neg c9] at H
            have c9b0 : ((Int.tmod a0 4) == 0) = false := beq_eq_false_iff_ne.mpr c9
            have c9b1 : ((Int.tmod a0 4) != 0) = true := bne_iff_ne.mpr c9
            obtain rfl := Option.some.inj H
            go_wp2
            go_ret
            exact ⟨by first | rfl | (simp; done) | (simp [*]; done), by repeat (first | exact Drawn0.refl _ | apply Drawn0.step)⟩
        · rw [if_neg c8] at H
          have c8b0 : (a1 == 2) = false := beq_eq_false_iff_ne.mpr c8
          have c8b1 : (a1 != 2) = true := bne_iff_ne.mpr c8
          obtain rfl := Option.some.inj H
          go_wp2
          go_ret
          exact ⟨by first | rfl | (simp; done) | (simp [*]; done), by repeat (first | exact Drawn0.refl _ | apply Drawn0.step)⟩

end Go.Proofs.Ytmiemfgcggkbnaa.QP2
