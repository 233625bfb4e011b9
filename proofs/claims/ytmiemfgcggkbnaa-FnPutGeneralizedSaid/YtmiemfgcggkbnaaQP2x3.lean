-- Written by a program of this work (wip/patch_print.py) for this claim.
import Derived.Test.YtmiemfgcggkbnaaQP2x0
import Derived.Test.YtmiemfgcggkbnaaQP2x2
namespace Go.Proofs.Ytmiemfgcggkbnaa.QP2
open Go.RowKit Go.Proofs.YtmiemfgcggkbnaaW.PrintWords Go.Proofs.YtmiemfgcggkbnaaW.PrintLast Go.Proofs.YtmiemfgcggkbnaaW.PrintMore
attribute [local go_sem] max2_int min2_int max_two min_two max_three min_three max_four min_four   -- for this text's walks alone
set_option linter.unusedVariables false
set_option linter.unusedSimpArgs false

section
open Go.BigFrame
set_option linter.unusedSimpArgs false
def DateNo (w : World) (e : Ending) (w' : World) : Prop := ∃ (y mo d h mi s na a : Int) (r : ByteArray), e = .returned (.tuple #[.agg #[.int .i64 y, .int .i64 mo, .int .i64 d, .int .i64 h, .int .i64 mi, .int .i64 s, .int .i64 na, .int .i64 a], .string r, .bool false]) ∧ Below w.heap.size w w'
def DateTo (w : World) (y mo d h mi : Int) (r : ByteArray) (ok : Bool) (e : Ending) (w' : World) : Prop := e = .returned (.tuple #[.agg #[.int .i64 y, .int .i64 mo, .int .i64 d, .int .i64 h, .int .i64 mi, .int .i64 0, .int .i64 0, .int .i64 0], .string r, .bool ok]) ∧ Below w.heap.size w w'
theorem lex99 : Region.lexB .any (opsOf Try.f99 10) = true := by kernel_rfl
def dateB (y mo d h mi : Int) : Bool := decide (1 ≤ mo) && decide (mo ≤ 12) && decide (1 ≤ d) && decide (d ≤ daysI y mo) && decide (h < 24) && decide (mi < 60)
set_option maxHeartbeats 8000000 in
set_option maxRecDepth 100000 in
theorem zzDate_yes (y mo d h mi : Int) (s : ByteArray) (w : World) (h0 : dg2 s = true) (h1 : dg2 (dr2 s) = true) (h2 : dg2 (dr2 (dr2 s)) = true) (h3 : dg2 (dr2 (dr2 (dr2 s))) = true) (e1 : mo = dv2 s) (e2 : d = dv2 (dr2 s)) (e3 : h = dv2 (dr2 (dr2 s))) (e4 : mi = dv2 (dr2 (dr2 (dr2 s)))) :
    Calls Try.prog 99 #[.int .i64 y, .string s] w (DateTo w y mo d h mi (dr2 (dr2 (dr2 (dr2 s)))) (dateB y mo d h mi)) := by
  have H0 := Aside0.mk h0
  have H1 := Aside0.mk h1
  have H2 := Aside0.mk h2
  have H3 := Aside0.mk h3
  have E1 := Aside0.mk e1
  have E2 := Aside0.mk e2
  have E3 := Aside0.mk e3
  have E4 := Aside0.mk e4
  clear h0 h1 h2 h3 e1 e2 e3 e4
  go_enter Try.func99, Try.ntmps99
  go_wp2
  generalize hW : ((w.alloc (.cells #[.int .i64 0, .int .i64 0, .int .i64 0, .int .i64 0, .int .i64 0, .int .i64 0, .int .i64 0, .int .i64 0] 87 (0, 0))).alloc (.cells #[.int .i64 y, .int .i64 0, .int .i64 0, .int .i64 0, .int .i64 0, .int .i64 0, .int .i64 0, .int .i64 0] 87 (0, 0))).alloc (.cells #[.pointer (some ⟨w.heap.size + 1, 1, none⟩), .pointer (some ⟨w.heap.size + 1, 2, none⟩), .pointer (some ⟨w.heap.size + 1, 3, none⟩), .pointer (some ⟨w.heap.size + 1, 4, none⟩)] 128 (0, 0)) = W0
  have BR := Aside0.mk (show W0.heap[w.heap.size]? = some (.cells #[.int .i64 0, .int .i64 0, .int .i64 0, .int .i64 0, .int .i64 0, .int .i64 0, .int .i64 0, .int .i64 0] 87 (0, 0)) from by rw [← hW]; exact blk_alloc (blk_alloc (blk_new w _) _) _)
  have BT := Aside0.mk (show W0.heap[w.heap.size + 1]? = some (.cells #[.int .i64 y, .int .i64 0, .int .i64 0, .int .i64 0, .int .i64 0, .int .i64 0, .int .i64 0, .int .i64 0] 87 (0, 0)) from by rw [← hW]; exact blk_alloc (by have := blk_new (w.alloc (.cells #[.int .i64 0, .int .i64 0, .int .i64 0, .int .i64 0, .int .i64 0, .int .i64 0, .int .i64 0, .int .i64 0] 87 (0, 0))) (.cells #[.int .i64 y, .int .i64 0, .int .i64 0, .int .i64 0, .int .i64 0, .int .i64 0, .int .i64 0, .int .i64 0] 87 (0, 0)); simpa using this) _)
  have BP := Aside0.mk (show W0.heap[w.heap.size + 1 + 1]? = some (.cells #[.pointer (some ⟨w.heap.size + 1, 1, none⟩), .pointer (some ⟨w.heap.size + 1, 2, none⟩), .pointer (some ⟨w.heap.size + 1, 3, none⟩), .pointer (some ⟨w.heap.size + 1, 4, none⟩)] 128 (0, 0)) from by rw [← hW]; have := blk_new ((w.alloc (.cells #[.int .i64 0, .int .i64 0, .int .i64 0, .int .i64 0, .int .i64 0, .int .i64 0, .int .i64 0, .int .i64 0] 87 (0, 0))).alloc (.cells #[.int .i64 y, .int .i64 0, .int .i64 0, .int .i64 0, .int .i64 0, .int .i64 0, .int .i64 0, .int .i64 0] 87 (0, 0))) (.cells #[.pointer (some ⟨w.heap.size + 1, 1, none⟩), .pointer (some ⟨w.heap.size + 1, 2, none⟩), .pointer (some ⟨w.heap.size + 1, 3, none⟩), .pointer (some ⟨w.heap.size + 1, 4, none⟩)] 128 (0, 0)); simpa using this)
  have HB := Aside0.mk (show Below w.heap.size w W0 from by rw [← hW]; exact below_alloc (below_alloc (below_alloc (Below.refl _ _) _) _) _)
  clear hW
  refine wp_loop_rounds 5 ?_
  rw [rounds_succ]
  have p0 := (blk_cell BP.out 0).trans (show _ = some (.pointer (some ⟨w.heap.size + 1, 1, none⟩)) from rfl); have p1 := (blk_cell BP.out 1).trans (show _ = some (.pointer (some ⟨w.heap.size + 1, 2, none⟩)) from rfl); have p2 := (blk_cell BP.out 2).trans (show _ = some (.pointer (some ⟨w.heap.size + 1, 3, none⟩)) from rfl); have p3 := (blk_cell BP.out 3).trans (show _ = some (.pointer (some ⟨w.heap.size + 1, 4, none⟩)) from rfl); have ct0 := (blk_cell BT.out 0).trans (show _ = some (.int .i64 y) from rfl); have ctf0 := blk_frozen BT.out 0; have ct1 := (blk_cell BT.out 1).trans (show _ = some (.int .i64 0) from rfl); have ctf1 := blk_frozen BT.out 1; have ct2 := (blk_cell BT.out 2).trans (show _ = some (.int .i64 0) from rfl); have ctf2 := blk_frozen BT.out 2; have ct3 := (blk_cell BT.out 3).trans (show _ = some (.int .i64 0) from rfl); have ctf3 := blk_frozen BT.out 3; have ct4 := (blk_cell BT.out 4).trans (show _ = some (.int .i64 0) from rfl); have ctf4 := blk_frozen BT.out 4; have ct5 := (blk_cell BT.out 5).trans (show _ = some (.int .i64 0) from rfl); have ctf5 := blk_frozen BT.out 5; have ct6 := (blk_cell BT.out 6).trans (show _ = some (.int .i64 0) from rfl); have ctf6 := blk_frozen BT.out 6; have ct7 := (blk_cell BT.out 7).trans (show _ = some (.int .i64 0) from rfl); have ctf7 := blk_frozen BT.out 7
  go_wp2_with (first
    | (go_at_call 98; (with_reducible refine (dig2_yes s _ H0.out).mono ?_); rintro e w1 ⟨rfl, ⟨n0, rfl⟩⟩)
    | ((with_reducible refine gate_store (t := 3) (p := 39) rfl ?_); refine store_event (t := 3) (p := 39) (v := ?vo0) (w1 := (W0.setCell ⟨w.heap.size + 1, 1, none⟩ (.int .i64 (dv2 s))).drewN n0) ?hg ?ho ?hn ?hr ?_; (case ho => rfl); (case hg => rfl); (case hn => rfl); (case hr => first | (go_simp; done) | (go_simp; rfl)); intro W1 hw; have n0_ := Aside0.mk (show W1.heap[w.heap.size + 1]? = some (.cells #[.int .i64 y, .int .i64 (dv2 s), .int .i64 0, .int .i64 0, .int .i64 0, .int .i64 0, .int .i64 0, .int .i64 0] 87 (0, 0)) from by rw [hw]; exact blk_drewN (blk_put (cs := #[.int .i64 y, .int .i64 0, .int .i64 0, .int .i64 0, .int .i64 0, .int .i64 0, .int .i64 0, .int .i64 0]) BT.out 1 _ rfl) _); have n1_ := Aside0.mk (show W1.heap[w.heap.size]? = some (.cells #[.int .i64 0, .int .i64 0, .int .i64 0, .int .i64 0, .int .i64 0, .int .i64 0, .int .i64 0, .int .i64 0] 87 (0, 0)) from by rw [hw]; exact blk_drewN (blk_far BR.out (by show w.heap.size ≠ w.heap.size + 1; omega) _) _); have n2_ := Aside0.mk (show W1.heap[w.heap.size + 1 + 1]? = some (.cells #[.pointer (some ⟨w.heap.size + 1, 1, none⟩), .pointer (some ⟨w.heap.size + 1, 2, none⟩), .pointer (some ⟨w.heap.size + 1, 3, none⟩), .pointer (some ⟨w.heap.size + 1, 4, none⟩)] 128 (0, 0)) from by rw [hw]; exact blk_drewN (blk_far BP.out (by show w.heap.size + 1 + 1 ≠ w.heap.size + 1; omega) _) _); have n3_ := Aside0.mk (show Below w.heap.size w W1 from by rw [hw]; exact pw_below_drewN (below_set HB.out (by omega)) _); clear BT BR BP HB p0 p1 p2 p3 hw; clear ct0 ctf0 ct1 ctf1 ct2 ctf2 ct3 ctf3 ct4 ctf4 ct5 ctf5 ct6 ctf6 ct7 ctf7; have BT := n0_; have BR := n1_; have BP := n2_; have HB := n3_; clear n0_ n1_ n2_ n3_))
  rw [rounds_succ]
  have p0 := (blk_cell BP.out 0).trans (show _ = some (.pointer (some ⟨w.heap.size + 1, 1, none⟩)) from rfl); have p1 := (blk_cell BP.out 1).trans (show _ = some (.pointer (some ⟨w.heap.size + 1, 2, none⟩)) from rfl); have p2 := (blk_cell BP.out 2).trans (show _ = some (.pointer (some ⟨w.heap.size + 1, 3, none⟩)) from rfl); have p3 := (blk_cell BP.out 3).trans (show _ = some (.pointer (some ⟨w.heap.size + 1, 4, none⟩)) from rfl); have ct0 := (blk_cell BT.out 0).trans (show _ = some (.int .i64 y) from rfl); have ctf0 := blk_frozen BT.out 0; have ct1 := (blk_cell BT.out 1).trans (show _ = some (.int .i64 (dv2 s)) from rfl); have ctf1 := blk_frozen BT.out 1; have ct2 := (blk_cell BT.out 2).trans (show _ = some (.int .i64 0) from rfl); have ctf2 := blk_frozen BT.out 2; have ct3 := (blk_cell BT.out 3).trans (show _ = some (.int .i64 0) from rfl); have ctf3 := blk_frozen BT.out 3; have ct4 := (blk_cell BT.out 4).trans (show _ = some (.int .i64 0) from rfl); have ctf4 := blk_frozen BT.out 4; have ct5 := (blk_cell BT.out 5).trans (show _ = some (.int .i64 0) from rfl); have ctf5 := blk_frozen BT.out 5; have ct6 := (blk_cell BT.out 6).trans (show _ = some (.int .i64 0) from rfl); have ctf6 := blk_frozen BT.out 6; have ct7 := (blk_cell BT.out 7).trans (show _ = some (.int .i64 0) from rfl); have ctf7 := blk_frozen BT.out 7
  go_wp2_with (first
    | (go_at_call 98; (with_reducible refine (dig2_yes (dr2 s) _ H1.out).mono ?_); rintro e w1 ⟨rfl, ⟨n1, rfl⟩⟩)
    | ((with_reducible refine gate_store (t := 3) (p := 39) rfl ?_); refine store_event (t := 3) (p := 39) (v := ?vo1) (w1 := (W1.setCell ⟨w.heap.size + 1, 2, none⟩ (.int .i64 (dv2 (dr2 s)))).drewN n1) ?hg ?ho ?hn ?hr ?_; (case ho => rfl); (case hg => rfl); (case hn => rfl); (case hr => first | (go_simp; done) | (go_simp; rfl)); intro W2 hw; have n0_ := Aside0.mk (show W2.heap[w.heap.size + 1]? = some (.cells #[.int .i64 y, .int .i64 (dv2 s), .int .i64 (dv2 (dr2 s)), .int .i64 0, .int .i64 0, .int .i64 0, .int .i64 0, .int .i64 0] 87 (0, 0)) from by rw [hw]; exact blk_drewN (blk_put (cs := #[.int .i64 y, .int .i64 (dv2 s), .int .i64 0, .int .i64 0, .int .i64 0, .int .i64 0, .int .i64 0, .int .i64 0]) BT.out 2 _ rfl) _); have n1_ := Aside0.mk (show W2.heap[w.heap.size]? = some (.cells #[.int .i64 0, .int .i64 0, .int .i64 0, .int .i64 0, .int .i64 0, .int .i64 0, .int .i64 0, .int .i64 0] 87 (0, 0)) from by rw [hw]; exact blk_drewN (blk_far BR.out (by show w.heap.size ≠ w.heap.size + 1; omega) _) _); have n2_ := Aside0.mk (show W2.heap[w.heap.size + 1 + 1]? = some (.cells #[.pointer (some ⟨w.heap.size + 1, 1, none⟩), .pointer (some ⟨w.heap.size + 1, 2, none⟩), .pointer (some ⟨w.heap.size + 1, 3, none⟩), .pointer (some ⟨w.heap.size + 1, 4, none⟩)] 128 (0, 0)) from by rw [hw]; exact blk_drewN (blk_far BP.out (by show w.heap.size + 1 + 1 ≠ w.heap.size + 1; omega) _) _); have n3_ := Aside0.mk (show Below w.heap.size w W2 from by rw [hw]; exact pw_below_drewN (below_set HB.out (by omega)) _); clear BT BR BP HB p0 p1 p2 p3 hw; clear ct0 ctf0 ct1 ctf1 ct2 ctf2 ct3 ctf3 ct4 ctf4 ct5 ctf5 ct6 ctf6 ct7 ctf7; have BT := n0_; have BR := n1_; have BP := n2_; have HB := n3_; clear n0_ n1_ n2_ n3_))
  rw [rounds_succ]
  have p0 := (blk_cell BP.out 0).trans (show _ = some (.pointer (some ⟨w.heap.size + 1, 1, none⟩)) from rfl); have p1 := (blk_cell BP.out 1).trans (show _ = some (.pointer (some ⟨w.heap.size + 1, 2, none⟩)) from rfl); have p2 := (blk_cell BP.out 2).trans (show _ = some (.pointer (some ⟨w.heap.size + 1, 3, none⟩)) from rfl); have p3 := (blk_cell BP.out 3).trans (show _ = some (.pointer (some ⟨w.heap.size + 1, 4, none⟩)) from rfl); have ct0 := (blk_cell BT.out 0).trans (show _ = some (.int .i64 y) from rfl); have ctf0 := blk_frozen BT.out 0; have ct1 := (blk_cell BT.out 1).trans (show _ = some (.int .i64 (dv2 s)) from rfl); have ctf1 := blk_frozen BT.out 1; have ct2 := (blk_cell BT.out 2).trans (show _ = some (.int .i64 (dv2 (dr2 s))) from rfl); have ctf2 := blk_frozen BT.out 2; have ct3 := (blk_cell BT.out 3).trans (show _ = some (.int .i64 0) from rfl); have ctf3 := blk_frozen BT.out 3; have ct4 := (blk_cell BT.out 4).trans (show _ = some (.int .i64 0) from rfl); have ctf4 := blk_frozen BT.out 4; have ct5 := (blk_cell BT.out 5).trans (show _ = some (.int .i64 0) from rfl); have ctf5 := blk_frozen BT.out 5; have ct6 := (blk_cell BT.out 6).trans (show _ = some (.int .i64 0) from rfl); have ctf6 := blk_frozen BT.out 6; have ct7 := (blk_cell BT.out 7).trans (show _ = some (.int .i64 0) from rfl); have ctf7 := blk_frozen BT.out 7
  go_wp2_with (first
    | (go_at_call 98; (with_reducible refine (dig2_yes (dr2 (dr2 s)) _ H2.out).mono ?_); rintro e w1 ⟨rfl, ⟨n2, rfl⟩⟩)
    | ((with_reducible refine gate_store (t := 3) (p := 39) rfl ?_); refine store_event (t := 3) (p := 39) (v := ?vo2) (w1 := (W2.setCell ⟨w.heap.size + 1, 3, none⟩ (.int .i64 (dv2 (dr2 (dr2 s))))).drewN n2) ?hg ?ho ?hn ?hr ?_; (case ho => rfl); (case hg => rfl); (case hn => rfl); (case hr => first | (go_simp; done) | (go_simp; rfl)); intro W3 hw; have n0_ := Aside0.mk (show W3.heap[w.heap.size + 1]? = some (.cells #[.int .i64 y, .int .i64 (dv2 s), .int .i64 (dv2 (dr2 s)), .int .i64 (dv2 (dr2 (dr2 s))), .int .i64 0, .int .i64 0, .int .i64 0, .int .i64 0] 87 (0, 0)) from by rw [hw]; exact blk_drewN (blk_put (cs := #[.int .i64 y, .int .i64 (dv2 s), .int .i64 (dv2 (dr2 s)), .int .i64 0, .int .i64 0, .int .i64 0, .int .i64 0, .int .i64 0]) BT.out 3 _ rfl) _); have n1_ := Aside0.mk (show W3.heap[w.heap.size]? = some (.cells #[.int .i64 0, .int .i64 0, .int .i64 0, .int .i64 0, .int .i64 0, .int .i64 0, .int .i64 0, .int .i64 0] 87 (0, 0)) from by rw [hw]; exact blk_drewN (blk_far BR.out (by show w.heap.size ≠ w.heap.size + 1; omega) _) _); have n2_ := Aside0.mk (show W3.heap[w.heap.size + 1 + 1]? = some (.cells #[.pointer (some ⟨w.heap.size + 1, 1, none⟩), .pointer (some ⟨w.heap.size + 1, 2, none⟩), .pointer (some ⟨w.heap.size + 1, 3, none⟩), .pointer (some ⟨w.heap.size + 1, 4, none⟩)] 128 (0, 0)) from by rw [hw]; exact blk_drewN (blk_far BP.out (by show w.heap.size + 1 + 1 ≠ w.heap.size + 1; omega) _) _); have n3_ := Aside0.mk (show Below w.heap.size w W3 from by rw [hw]; exact pw_below_drewN (below_set HB.out (by omega)) _); clear BT BR BP HB p0 p1 p2 p3 hw; clear ct0 ctf0 ct1 ctf1 ct2 ctf2 ct3 ctf3 ct4 ctf4 ct5 ctf5 ct6 ctf6 ct7 ctf7; have BT := n0_; have BR := n1_; have BP := n2_; have HB := n3_; clear n0_ n1_ n2_ n3_))
  rw [rounds_succ]
  have p0 := (blk_cell BP.out 0).trans (show _ = some (.pointer (some ⟨w.heap.size + 1, 1, none⟩)) from rfl); have p1 := (blk_cell BP.out 1).trans (show _ = some (.pointer (some ⟨w.heap.size + 1, 2, none⟩)) from rfl); have p2 := (blk_cell BP.out 2).trans (show _ = some (.pointer (some ⟨w.heap.size + 1, 3, none⟩)) from rfl); have p3 := (blk_cell BP.out 3).trans (show _ = some (.pointer (some ⟨w.heap.size + 1, 4, none⟩)) from rfl); have ct0 := (blk_cell BT.out 0).trans (show _ = some (.int .i64 y) from rfl); have ctf0 := blk_frozen BT.out 0; have ct1 := (blk_cell BT.out 1).trans (show _ = some (.int .i64 (dv2 s)) from rfl); have ctf1 := blk_frozen BT.out 1; have ct2 := (blk_cell BT.out 2).trans (show _ = some (.int .i64 (dv2 (dr2 s))) from rfl); have ctf2 := blk_frozen BT.out 2; have ct3 := (blk_cell BT.out 3).trans (show _ = some (.int .i64 (dv2 (dr2 (dr2 s)))) from rfl); have ctf3 := blk_frozen BT.out 3; have ct4 := (blk_cell BT.out 4).trans (show _ = some (.int .i64 0) from rfl); have ctf4 := blk_frozen BT.out 4; have ct5 := (blk_cell BT.out 5).trans (show _ = some (.int .i64 0) from rfl); have ctf5 := blk_frozen BT.out 5; have ct6 := (blk_cell BT.out 6).trans (show _ = some (.int .i64 0) from rfl); have ctf6 := blk_frozen BT.out 6; have ct7 := (blk_cell BT.out 7).trans (show _ = some (.int .i64 0) from rfl); have ctf7 := blk_frozen BT.out 7
  go_wp2_with (first
    | (go_at_call 98; (with_reducible refine (dig2_yes (dr2 (dr2 (dr2 s))) _ H3.out).mono ?_); rintro e w1 ⟨rfl, ⟨n3, rfl⟩⟩)
    | ((with_reducible refine gate_store (t := 3) (p := 39) rfl ?_); refine store_event (t := 3) (p := 39) (v := ?vo3) (w1 := (W3.setCell ⟨w.heap.size + 1, 4, none⟩ (.int .i64 (dv2 (dr2 (dr2 (dr2 s)))))).drewN n3) ?hg ?ho ?hn ?hr ?_; (case ho => rfl); (case hg => rfl); (case hn => rfl); (case hr => first | (go_simp; done) | (go_simp; rfl)); intro W4 hw; have n0_ := Aside0.mk (show W4.heap[w.heap.size + 1]? = some (.cells #[.int .i64 y, .int .i64 (dv2 s), .int .i64 (dv2 (dr2 s)), .int .i64 (dv2 (dr2 (dr2 s))), .int .i64 (dv2 (dr2 (dr2 (dr2 s)))), .int .i64 0, .int .i64 0, .int .i64 0] 87 (0, 0)) from by rw [hw]; exact blk_drewN (blk_put (cs := #[.int .i64 y, .int .i64 (dv2 s), .int .i64 (dv2 (dr2 s)), .int .i64 (dv2 (dr2 (dr2 s))), .int .i64 0, .int .i64 0, .int .i64 0, .int .i64 0]) BT.out 4 _ rfl) _); have n1_ := Aside0.mk (show W4.heap[w.heap.size]? = some (.cells #[.int .i64 0, .int .i64 0, .int .i64 0, .int .i64 0, .int .i64 0, .int .i64 0, .int .i64 0, .int .i64 0] 87 (0, 0)) from by rw [hw]; exact blk_drewN (blk_far BR.out (by show w.heap.size ≠ w.heap.size + 1; omega) _) _); have n2_ := Aside0.mk (show W4.heap[w.heap.size + 1 + 1]? = some (.cells #[.pointer (some ⟨w.heap.size + 1, 1, none⟩), .pointer (some ⟨w.heap.size + 1, 2, none⟩), .pointer (some ⟨w.heap.size + 1, 3, none⟩), .pointer (some ⟨w.heap.size + 1, 4, none⟩)] 128 (0, 0)) from by rw [hw]; exact blk_drewN (blk_far BP.out (by show w.heap.size + 1 + 1 ≠ w.heap.size + 1; omega) _) _); have n3_ := Aside0.mk (show Below w.heap.size w W4 from by rw [hw]; exact pw_below_drewN (below_set HB.out (by omega)) _); clear BT BR BP HB p0 p1 p2 p3 hw; clear ct0 ctf0 ct1 ctf1 ct2 ctf2 ct3 ctf3 ct4 ctf4 ct5 ctf5 ct6 ctf6 ct7 ctf7; have BT := n0_; have BR := n1_; have BP := n2_; have HB := n3_; clear n0_ n1_ n2_ n3_))
  rw [rounds_succ]
  go_upto_region 10 with (fail)
  (try simp only [Act.put, List.setIfInBounds_toArray, List.set_cons_zero, List.set_cons_succ])
  have n0_ := Aside0.mk (show W4.heap[w.heap.size + 1]? = some (.cells #[.int .i64 y, .int .i64 mo, .int .i64 d, .int .i64 h, .int .i64 mi, .int .i64 0, .int .i64 0, .int .i64 0] 87 (0, 0)) from by rw [E1.out, E2.out, E3.out, E4.out]; exact BT.out)
  clear BT E1 E2 E3 E4 BP H0 H1 H2 H3
  have BT := n0_
  clear n0_
  go_cut [13] (fun v13 wc => v13 = .bool (dateB y mo d h mi) ∧ ∃ n, wc = W4.drewN n)
  case first =>
    have ct0 := (blk_cell BT.out 0).trans (show _ = some (.int .i64 y) from rfl); have ctf0 := blk_frozen BT.out 0; have ct1 := (blk_cell BT.out 1).trans (show _ = some (.int .i64 mo) from rfl); have ctf1 := blk_frozen BT.out 1; have ct2 := (blk_cell BT.out 2).trans (show _ = some (.int .i64 d) from rfl); have ctf2 := blk_frozen BT.out 2; have ct3 := (blk_cell BT.out 3).trans (show _ = some (.int .i64 h) from rfl); have ctf3 := blk_frozen BT.out 3; have ct4 := (blk_cell BT.out 4).trans (show _ = some (.int .i64 mi) from rfl); have ctf4 := blk_frozen BT.out 4; have ct5 := (blk_cell BT.out 5).trans (show _ = some (.int .i64 0) from rfl); have ctf5 := blk_frozen BT.out 5; have ct6 := (blk_cell BT.out 6).trans (show _ = some (.int .i64 0) from rfl); have ctf6 := blk_frozen BT.out 6; have ct7 := (blk_cell BT.out 7).trans (show _ = some (.int .i64 0) from rfl); have ctf7 := blk_frozen BT.out 7
    by_cases k0 : 1 ≤ mo
    case neg =>
      have q0 : decide (1 ≤ mo) = false := decide_eq_false k0
      clear k0
      refine wp_quiet_of (ops0 := opsOf Try.f99 10) (by kernel_rfl) (by kernel_rfl) lex99 ?_
      (try simp only [app_cons_, app_nil_])
      repeat (go_big_quiet_step ((go_at_call 106; exact Calls.quiet_of ((days3_any y mo _).mono fun _ _ ⟨he, ⟨h⟩⟩ => ⟨he, h⟩))))
      refine wpQuiet_nil ?_
      intro _ hw'
      obtain ⟨nq, hw''⟩ := hw'
      subst hw''
      try go_wp2
      go_meet
      case rel => exact ⟨by unfold dateB; simp only [q0, Bool.and_false, Bool.false_and, Bool.and_true, Bool.true_and], _, rfl⟩
    by_cases k1 : mo ≤ 12
    case neg =>
      have q0 : decide (1 ≤ mo) = true := decide_eq_true k0
      have q1 : decide (mo ≤ 12) = false := decide_eq_false k1
      clear k0 k1
      refine wp_quiet_of (ops0 := opsOf Try.f99 10) (by kernel_rfl) (by kernel_rfl) lex99 ?_
      (try simp only [app_cons_, app_nil_])
      repeat (go_big_quiet_step ((go_at_call 106; exact Calls.quiet_of ((days3_any y mo _).mono fun _ _ ⟨he, ⟨h⟩⟩ => ⟨he, h⟩))))
      refine wpQuiet_nil ?_
      intro _ hw'
      obtain ⟨nq, hw''⟩ := hw'
      subst hw''
      try go_wp2
      go_meet
      case rel => exact ⟨by unfold dateB; simp only [q0, q1, Bool.and_false, Bool.false_and, Bool.and_true, Bool.true_and], _, rfl⟩
    by_cases k2 : 1 ≤ d
    case neg =>
      have q0 : decide (1 ≤ mo) = true := decide_eq_true k0
      have q1 : decide (mo ≤ 12) = true := decide_eq_true k1
      have q2 : decide (1 ≤ d) = false := decide_eq_false k2
      clear k0 k1 k2
      refine wp_quiet_of (ops0 := opsOf Try.f99 10) (by kernel_rfl) (by kernel_rfl) lex99 ?_
      (try simp only [app_cons_, app_nil_])
      repeat (go_big_quiet_step ((go_at_call 106; exact Calls.quiet_of ((days3_any y mo _).mono fun _ _ ⟨he, ⟨h⟩⟩ => ⟨he, h⟩))))
      refine wpQuiet_nil ?_
      intro _ hw'
      obtain ⟨nq, hw''⟩ := hw'
      subst hw''
      try go_wp2
      go_meet
      case rel => exact ⟨by unfold dateB; simp only [q0, q1, q2, Bool.and_false, Bool.false_and, Bool.and_true, Bool.true_and], _, rfl⟩
    by_cases k3 : d ≤ daysI y mo
    case neg =>
      have q0 : decide (1 ≤ mo) = true := decide_eq_true k0
      have q1 : decide (mo ≤ 12) = true := decide_eq_true k1
      have q2 : decide (1 ≤ d) = true := decide_eq_true k2
      have q3 : decide (d ≤ daysI y mo) = false := decide_eq_false k3
      clear k0 k1 k2 k3
      refine wp_quiet_of (ops0 := opsOf Try.f99 10) (by kernel_rfl) (by kernel_rfl) lex99 ?_
      (try simp only [app_cons_, app_nil_])
      repeat (go_big_quiet_step ((go_at_call 106; exact Calls.quiet_of ((days3_any y mo _).mono fun _ _ ⟨he, ⟨h⟩⟩ => ⟨he, h⟩))))
      refine wpQuiet_nil ?_
      intro _ hw'
      obtain ⟨nq, hw''⟩ := hw'
      subst hw''
      try go_wp2
      go_meet
      case rel => exact ⟨by unfold dateB; simp only [q0, q1, q2, q3, Bool.and_false, Bool.false_and, Bool.and_true, Bool.true_and], _, rfl⟩
    by_cases k4 : h < 24
    case neg =>
      have q0 : decide (1 ≤ mo) = true := decide_eq_true k0
      have q1 : decide (mo ≤ 12) = true := decide_eq_true k1
      have q2 : decide (1 ≤ d) = true := decide_eq_true k2
      have q3 : decide (d ≤ daysI y mo) = true := decide_eq_true k3
      have q4 : decide (h < 24) = false := decide_eq_false k4
      clear k0 k1 k2 k3 k4
      refine wp_quiet_of (ops0 := opsOf Try.f99 10) (by kernel_rfl) (by kernel_rfl) lex99 ?_
      (try simp only [app_cons_, app_nil_])
      repeat (go_big_quiet_step ((go_at_call 106; exact Calls.quiet_of ((days3_any y mo _).mono fun _ _ ⟨he, ⟨h⟩⟩ => ⟨he, h⟩))))
      refine wpQuiet_nil ?_
      intro _ hw'
      obtain ⟨nq, hw''⟩ := hw'
      subst hw''
      try go_wp2
      go_meet
      case rel => exact ⟨by unfold dateB; simp only [q0, q1, q2, q3, q4, Bool.and_false, Bool.false_and, Bool.and_true, Bool.true_and], _, rfl⟩
    by_cases k5 : mi < 60
    case neg =>
      have q0 : decide (1 ≤ mo) = true := decide_eq_true k0
      have q1 : decide (mo ≤ 12) = true := decide_eq_true k1
      have q2 : decide (1 ≤ d) = true := decide_eq_true k2
      have q3 : decide (d ≤ daysI y mo) = true := decide_eq_true k3
      have q4 : decide (h < 24) = true := decide_eq_true k4
      have q5 : decide (mi < 60) = false := decide_eq_false k5
      clear k0 k1 k2 k3 k4 k5
      refine wp_quiet_of (ops0 := opsOf Try.f99 10) (by kernel_rfl) (by kernel_rfl) lex99 ?_
      (try simp only [app_cons_, app_nil_])
      repeat (go_big_quiet_step ((go_at_call 106; exact Calls.quiet_of ((days3_any y mo _).mono fun _ _ ⟨he, ⟨h⟩⟩ => ⟨he, h⟩))))
      refine wpQuiet_nil ?_
      intro _ hw'
      obtain ⟨nq, hw''⟩ := hw'
      subst hw''
      try go_wp2
      go_meet
      case rel => exact ⟨by unfold dateB; simp only [q0, q1, q2, q3, q4, q5, Bool.and_false, Bool.false_and, Bool.and_true, Bool.true_and], _, rfl⟩
    have q0 : decide (1 ≤ mo) = true := decide_eq_true k0
    have q1 : decide (mo ≤ 12) = true := decide_eq_true k1
    have q2 : decide (1 ≤ d) = true := decide_eq_true k2
    have q3 : decide (d ≤ daysI y mo) = true := decide_eq_true k3
    have q4 : decide (h < 24) = true := decide_eq_true k4
    have q5 : decide (mi < 60) = true := decide_eq_true k5
    clear k0 k1 k2 k3 k4 k5
    refine wp_quiet_of (ops0 := opsOf Try.f99 10) (by kernel_rfl) (by kernel_rfl) lex99 ?_
    (try simp only [app_cons_, app_nil_])
    repeat (go_big_quiet_step ((go_at_call 106; exact Calls.quiet_of ((days3_any y mo _).mono fun _ _ ⟨he, ⟨h⟩⟩ => ⟨he, h⟩))))
    refine wpQuiet_nil ?_
    intro _ hw'
    obtain ⟨nq, hw''⟩ := hw'
    subst hw''
    try go_wp2
    go_meet
    case rel => exact ⟨by unfold dateB; simp only [q0, q1, q2, q3, q4, q5, Bool.and_true], _, rfl⟩
  case rest =>
    obtain ⟨rfl, n4, rfl⟩ := hcut
    have ct0 := (blk_cell BT.out 0).trans (show _ = some (.int .i64 y) from rfl); have ctf0 := blk_frozen BT.out 0; have ct1 := (blk_cell BT.out 1).trans (show _ = some (.int .i64 mo) from rfl); have ctf1 := blk_frozen BT.out 1; have ct2 := (blk_cell BT.out 2).trans (show _ = some (.int .i64 d) from rfl); have ctf2 := blk_frozen BT.out 2; have ct3 := (blk_cell BT.out 3).trans (show _ = some (.int .i64 h) from rfl); have ctf3 := blk_frozen BT.out 3; have ct4 := (blk_cell BT.out 4).trans (show _ = some (.int .i64 mi) from rfl); have ctf4 := blk_frozen BT.out 4; have ct5 := (blk_cell BT.out 5).trans (show _ = some (.int .i64 0) from rfl); have ctf5 := blk_frozen BT.out 5; have ct6 := (blk_cell BT.out 6).trans (show _ = some (.int .i64 0) from rfl); have ctf6 := blk_frozen BT.out 6; have ct7 := (blk_cell BT.out 7).trans (show _ = some (.int .i64 0) from rfl); have ctf7 := blk_frozen BT.out 7; have cr0 := (blk_cell BR.out 0).trans (show _ = some (.int .i64 0) from rfl); have crf0 := blk_frozen BR.out 0; have cr1 := (blk_cell BR.out 1).trans (show _ = some (.int .i64 0) from rfl); have crf1 := blk_frozen BR.out 1; have cr2 := (blk_cell BR.out 2).trans (show _ = some (.int .i64 0) from rfl); have crf2 := blk_frozen BR.out 2; have cr3 := (blk_cell BR.out 3).trans (show _ = some (.int .i64 0) from rfl); have crf3 := blk_frozen BR.out 3; have cr4 := (blk_cell BR.out 4).trans (show _ = some (.int .i64 0) from rfl); have crf4 := blk_frozen BR.out 4; have cr5 := (blk_cell BR.out 5).trans (show _ = some (.int .i64 0) from rfl); have crf5 := blk_frozen BR.out 5; have cr6 := (blk_cell BR.out 6).trans (show _ = some (.int .i64 0) from rfl); have crf6 := blk_frozen BR.out 6; have cr7 := (blk_cell BR.out 7).trans (show _ = some (.int .i64 0) from rfl); have crf7 := blk_frozen BR.out 7
    go_wp2_with (first
      | ((with_reducible refine gate_store (t := 87) (p := 4) rfl ?_); refine store_event (t := 87) (p := 4) (v := ?vo9) (w1 := (put8 W4 (w.heap.size) (.int .i64 y) (.int .i64 mo) (.int .i64 d) (.int .i64 h) (.int .i64 mi) (.int .i64 0) (.int .i64 0) (.int .i64 0)).drewN n4) ?hg ?ho ?hn ?hr ?_; (case ho => rfl); (case hg => rfl); (case hn => rfl); (case hr => first | (go_simp; done) | (go_simp; rfl)); intro W5 hw; have BX := Aside0.mk (show W5.heap[w.heap.size]? = some (.cells #[.int .i64 y, .int .i64 mo, .int .i64 d, .int .i64 h, .int .i64 mi, .int .i64 0, .int .i64 0, .int .i64 0] 87 (0, 0)) from by rw [hw]; exact blk_drewN (put8_blk BR.out (.int .i64 y) (.int .i64 mo) (.int .i64 d) (.int .i64 h) (.int .i64 mi) (.int .i64 0) (.int .i64 0) (.int .i64 0)) _); have HX := Aside0.mk (show Below w.heap.size w W5 from by rw [hw]; exact pw_below_drewN (HB.out.grown (put8_grown W4 (w.heap.size) (.int .i64 y) (.int .i64 mo) (.int .i64 d) (.int .i64 h) (.int .i64 mi) (.int .i64 0) (.int .i64 0) (.int .i64 0)) (below_size HB.out) (fun q hq => by cases hq; exact Nat.le_refl _)) _); clear hw))
    refine bodyPost_ret (results_ctt rfl _ _ (w.heap.size) 87 #[.int .i64 y, .int .i64 mo, .int .i64 d, .int .i64 h, .int .i64 mi, .int .i64 0, .int .i64 0, .int .i64 0] (0, 0) _ rfl BX.out Try.underlying87 rfl (by kernel_rfl)) rfl ?_
    exact ⟨rfl, HX.out⟩
set_option maxHeartbeats 8000000 in
set_option maxRecDepth 100000 in
theorem zzDate_no0 (y : Int) (s : ByteArray) (w : World) (h0 : dg2 s = false) :
    Calls Try.prog 99 #[.int .i64 y, .string s] w (DateNo w) := by
  have H0 := Aside0.mk h0
  clear h0
  go_enter Try.func99, Try.ntmps99
  go_wp2
  generalize hW : ((w.alloc (.cells #[.int .i64 0, .int .i64 0, .int .i64 0, .int .i64 0, .int .i64 0, .int .i64 0, .int .i64 0, .int .i64 0] 87 (0, 0))).alloc (.cells #[.int .i64 y, .int .i64 0, .int .i64 0, .int .i64 0, .int .i64 0, .int .i64 0, .int .i64 0, .int .i64 0] 87 (0, 0))).alloc (.cells #[.pointer (some ⟨w.heap.size + 1, 1, none⟩), .pointer (some ⟨w.heap.size + 1, 2, none⟩), .pointer (some ⟨w.heap.size + 1, 3, none⟩), .pointer (some ⟨w.heap.size + 1, 4, none⟩)] 128 (0, 0)) = W0
  have BR := Aside0.mk (show W0.heap[w.heap.size]? = some (.cells #[.int .i64 0, .int .i64 0, .int .i64 0, .int .i64 0, .int .i64 0, .int .i64 0, .int .i64 0, .int .i64 0] 87 (0, 0)) from by rw [← hW]; exact blk_alloc (blk_alloc (blk_new w _) _) _)
  have BT := Aside0.mk (show W0.heap[w.heap.size + 1]? = some (.cells #[.int .i64 y, .int .i64 0, .int .i64 0, .int .i64 0, .int .i64 0, .int .i64 0, .int .i64 0, .int .i64 0] 87 (0, 0)) from by rw [← hW]; exact blk_alloc (by have := blk_new (w.alloc (.cells #[.int .i64 0, .int .i64 0, .int .i64 0, .int .i64 0, .int .i64 0, .int .i64 0, .int .i64 0, .int .i64 0] 87 (0, 0))) (.cells #[.int .i64 y, .int .i64 0, .int .i64 0, .int .i64 0, .int .i64 0, .int .i64 0, .int .i64 0, .int .i64 0] 87 (0, 0)); simpa using this) _)
  have BP := Aside0.mk (show W0.heap[w.heap.size + 1 + 1]? = some (.cells #[.pointer (some ⟨w.heap.size + 1, 1, none⟩), .pointer (some ⟨w.heap.size + 1, 2, none⟩), .pointer (some ⟨w.heap.size + 1, 3, none⟩), .pointer (some ⟨w.heap.size + 1, 4, none⟩)] 128 (0, 0)) from by rw [← hW]; have := blk_new ((w.alloc (.cells #[.int .i64 0, .int .i64 0, .int .i64 0, .int .i64 0, .int .i64 0, .int .i64 0, .int .i64 0, .int .i64 0] 87 (0, 0))).alloc (.cells #[.int .i64 y, .int .i64 0, .int .i64 0, .int .i64 0, .int .i64 0, .int .i64 0, .int .i64 0, .int .i64 0] 87 (0, 0))) (.cells #[.pointer (some ⟨w.heap.size + 1, 1, none⟩), .pointer (some ⟨w.heap.size + 1, 2, none⟩), .pointer (some ⟨w.heap.size + 1, 3, none⟩), .pointer (some ⟨w.heap.size + 1, 4, none⟩)] 128 (0, 0)); simpa using this)
  have HB := Aside0.mk (show Below w.heap.size w W0 from by rw [← hW]; exact below_alloc (below_alloc (below_alloc (Below.refl _ _) _) _) _)
  clear hW
  refine wp_loop_rounds 5 ?_
  rw [rounds_succ]
  have p0 := (blk_cell BP.out 0).trans (show _ = some (.pointer (some ⟨w.heap.size + 1, 1, none⟩)) from rfl); have p1 := (blk_cell BP.out 1).trans (show _ = some (.pointer (some ⟨w.heap.size + 1, 2, none⟩)) from rfl); have p2 := (blk_cell BP.out 2).trans (show _ = some (.pointer (some ⟨w.heap.size + 1, 3, none⟩)) from rfl); have p3 := (blk_cell BP.out 3).trans (show _ = some (.pointer (some ⟨w.heap.size + 1, 4, none⟩)) from rfl); have ct0 := (blk_cell BT.out 0).trans (show _ = some (.int .i64 y) from rfl); have ctf0 := blk_frozen BT.out 0; have ct1 := (blk_cell BT.out 1).trans (show _ = some (.int .i64 0) from rfl); have ctf1 := blk_frozen BT.out 1; have ct2 := (blk_cell BT.out 2).trans (show _ = some (.int .i64 0) from rfl); have ctf2 := blk_frozen BT.out 2; have ct3 := (blk_cell BT.out 3).trans (show _ = some (.int .i64 0) from rfl); have ctf3 := blk_frozen BT.out 3; have ct4 := (blk_cell BT.out 4).trans (show _ = some (.int .i64 0) from rfl); have ctf4 := blk_frozen BT.out 4; have ct5 := (blk_cell BT.out 5).trans (show _ = some (.int .i64 0) from rfl); have ctf5 := blk_frozen BT.out 5; have ct6 := (blk_cell BT.out 6).trans (show _ = some (.int .i64 0) from rfl); have ctf6 := blk_frozen BT.out 6; have ct7 := (blk_cell BT.out 7).trans (show _ = some (.int .i64 0) from rfl); have ctf7 := blk_frozen BT.out 7
  have cr0 := (blk_cell BR.out 0).trans (show _ = some (.int .i64 0) from rfl); have crf0 := blk_frozen BR.out 0; have cr1 := (blk_cell BR.out 1).trans (show _ = some (.int .i64 0) from rfl); have crf1 := blk_frozen BR.out 1; have cr2 := (blk_cell BR.out 2).trans (show _ = some (.int .i64 0) from rfl); have crf2 := blk_frozen BR.out 2; have cr3 := (blk_cell BR.out 3).trans (show _ = some (.int .i64 0) from rfl); have crf3 := blk_frozen BR.out 3; have cr4 := (blk_cell BR.out 4).trans (show _ = some (.int .i64 0) from rfl); have crf4 := blk_frozen BR.out 4; have cr5 := (blk_cell BR.out 5).trans (show _ = some (.int .i64 0) from rfl); have crf5 := blk_frozen BR.out 5; have cr6 := (blk_cell BR.out 6).trans (show _ = some (.int .i64 0) from rfl); have crf6 := blk_frozen BR.out 6; have cr7 := (blk_cell BR.out 7).trans (show _ = some (.int .i64 0) from rfl); have crf7 := blk_frozen BR.out 7
  go_wp2_with (first
    | (go_at_call 98; (with_reducible refine (dig2_no s _ H0.out).mono ?_); rintro e w1 ⟨rfl, ⟨n0, rfl⟩⟩)
    | ((with_reducible refine gate_store (t := 87) (p := 4) rfl ?_); refine store_event (t := 87) (p := 4) (v := ?vo0) (w1 := (put8 W0 (w.heap.size) (.int .i64 y) (.int .i64 0) (.int .i64 0) (.int .i64 0) (.int .i64 0) (.int .i64 0) (.int .i64 0) (.int .i64 0)).drewN n0) ?hg ?ho ?hn ?hr ?_; (case ho => rfl); (case hg => rfl); (case hn => rfl); (case hr => first | (go_simp; done) | (go_simp; rfl)); intro W1 hw; have BX := Aside0.mk (show W1.heap[w.heap.size]? = some (.cells #[.int .i64 y, .int .i64 0, .int .i64 0, .int .i64 0, .int .i64 0, .int .i64 0, .int .i64 0, .int .i64 0] 87 (0, 0)) from by rw [hw]; exact blk_drewN (put8_blk BR.out (.int .i64 y) (.int .i64 0) (.int .i64 0) (.int .i64 0) (.int .i64 0) (.int .i64 0) (.int .i64 0) (.int .i64 0)) _); have HX := Aside0.mk (show Below w.heap.size w W1 from by rw [hw]; exact pw_below_drewN (HB.out.grown (put8_grown W0 (w.heap.size) (.int .i64 y) (.int .i64 0) (.int .i64 0) (.int .i64 0) (.int .i64 0) (.int .i64 0) (.int .i64 0) (.int .i64 0)) (below_size HB.out) (fun q hq => by cases hq; exact Nat.le_refl _)) _); clear hw))
  refine bodyPost_ret (results_ctt rfl _ _ (w.heap.size) 87 #[.int .i64 y, .int .i64 0, .int .i64 0, .int .i64 0, .int .i64 0, .int .i64 0, .int .i64 0, .int .i64 0] (0, 0) _ rfl BX.out Try.underlying87 rfl (by kernel_rfl)) rfl ?_
  exact ⟨_, _, _, _, _, _, _, _, s, rfl, HX.out⟩
set_option maxHeartbeats 8000000 in
set_option maxRecDepth 100000 in
theorem zzDate_no1 (y : Int) (s : ByteArray) (w : World) (h0 : dg2 s = true) (h1 : dg2 (dr2 s) = false) :
    Calls Try.prog 99 #[.int .i64 y, .string s] w (DateNo w) := by
  have H0 := Aside0.mk h0
  have H1 := Aside0.mk h1
  clear h0 h1
  go_enter Try.func99, Try.ntmps99
  go_wp2
  generalize hW : ((w.alloc (.cells #[.int .i64 0, .int .i64 0, .int .i64 0, .int .i64 0, .int .i64 0, .int .i64 0, .int .i64 0, .int .i64 0] 87 (0, 0))).alloc (.cells #[.int .i64 y, .int .i64 0, .int .i64 0, .int .i64 0, .int .i64 0, .int .i64 0, .int .i64 0, .int .i64 0] 87 (0, 0))).alloc (.cells #[.pointer (some ⟨w.heap.size + 1, 1, none⟩), .pointer (some ⟨w.heap.size + 1, 2, none⟩), .pointer (some ⟨w.heap.size + 1, 3, none⟩), .pointer (some ⟨w.heap.size + 1, 4, none⟩)] 128 (0, 0)) = W0
  have BR := Aside0.mk (show W0.heap[w.heap.size]? = some (.cells #[.int .i64 0, .int .i64 0, .int .i64 0, .int .i64 0, .int .i64 0, .int .i64 0, .int .i64 0, .int .i64 0] 87 (0, 0)) from by rw [← hW]; exact blk_alloc (blk_alloc (blk_new w _) _) _)
  have BT := Aside0.mk (show W0.heap[w.heap.size + 1]? = some (.cells #[.int .i64 y, .int .i64 0, .int .i64 0, .int .i64 0, .int .i64 0, .int .i64 0, .int .i64 0, .int .i64 0] 87 (0, 0)) from by rw [← hW]; exact blk_alloc (by have := blk_new (w.alloc (.cells #[.int .i64 0, .int .i64 0, .int .i64 0, .int .i64 0, .int .i64 0, .int .i64 0, .int .i64 0, .int .i64 0] 87 (0, 0))) (.cells #[.int .i64 y, .int .i64 0, .int .i64 0, .int .i64 0, .int .i64 0, .int .i64 0, .int .i64 0, .int .i64 0] 87 (0, 0)); simpa using this) _)
  have BP := Aside0.mk (show W0.heap[w.heap.size + 1 + 1]? = some (.cells #[.pointer (some ⟨w.heap.size + 1, 1, none⟩), .pointer (some ⟨w.heap.size + 1, 2, none⟩), .pointer (some ⟨w.heap.size + 1, 3, none⟩), .pointer (some ⟨w.heap.size + 1, 4, none⟩)] 128 (0, 0)) from by rw [← hW]; have := blk_new ((w.alloc (.cells #[.int .i64 0, .int .i64 0, .int .i64 0, .int .i64 0, .int .i64 0, .int .i64 0, .int .i64 0, .int .i64 0] 87 (0, 0))).alloc (.cells #[.int .i64 y, .int .i64 0, .int .i64 0, .int .i64 0, .int .i64 0, .int .i64 0, .int .i64 0, .int .i64 0] 87 (0, 0))) (.cells #[.pointer (some ⟨w.heap.size + 1, 1, none⟩), .pointer (some ⟨w.heap.size + 1, 2, none⟩), .pointer (some ⟨w.heap.size + 1, 3, none⟩), .pointer (some ⟨w.heap.size + 1, 4, none⟩)] 128 (0, 0)); simpa using this)
  have HB := Aside0.mk (show Below w.heap.size w W0 from by rw [← hW]; exact below_alloc (below_alloc (below_alloc (Below.refl _ _) _) _) _)
  clear hW
  refine wp_loop_rounds 5 ?_
  rw [rounds_succ]
  have p0 := (blk_cell BP.out 0).trans (show _ = some (.pointer (some ⟨w.heap.size + 1, 1, none⟩)) from rfl); have p1 := (blk_cell BP.out 1).trans (show _ = some (.pointer (some ⟨w.heap.size + 1, 2, none⟩)) from rfl); have p2 := (blk_cell BP.out 2).trans (show _ = some (.pointer (some ⟨w.heap.size + 1, 3, none⟩)) from rfl); have p3 := (blk_cell BP.out 3).trans (show _ = some (.pointer (some ⟨w.heap.size + 1, 4, none⟩)) from rfl); have ct0 := (blk_cell BT.out 0).trans (show _ = some (.int .i64 y) from rfl); have ctf0 := blk_frozen BT.out 0; have ct1 := (blk_cell BT.out 1).trans (show _ = some (.int .i64 0) from rfl); have ctf1 := blk_frozen BT.out 1; have ct2 := (blk_cell BT.out 2).trans (show _ = some (.int .i64 0) from rfl); have ctf2 := blk_frozen BT.out 2; have ct3 := (blk_cell BT.out 3).trans (show _ = some (.int .i64 0) from rfl); have ctf3 := blk_frozen BT.out 3; have ct4 := (blk_cell BT.out 4).trans (show _ = some (.int .i64 0) from rfl); have ctf4 := blk_frozen BT.out 4; have ct5 := (blk_cell BT.out 5).trans (show _ = some (.int .i64 0) from rfl); have ctf5 := blk_frozen BT.out 5; have ct6 := (blk_cell BT.out 6).trans (show _ = some (.int .i64 0) from rfl); have ctf6 := blk_frozen BT.out 6; have ct7 := (blk_cell BT.out 7).trans (show _ = some (.int .i64 0) from rfl); have ctf7 := blk_frozen BT.out 7
  go_wp2_with (first
    | (go_at_call 98; (with_reducible refine (dig2_yes s _ H0.out).mono ?_); rintro e w1 ⟨rfl, ⟨n0, rfl⟩⟩)
    | ((with_reducible refine gate_store (t := 3) (p := 39) rfl ?_); refine store_event (t := 3) (p := 39) (v := ?vo0) (w1 := (W0.setCell ⟨w.heap.size + 1, 1, none⟩ (.int .i64 (dv2 s))).drewN n0) ?hg ?ho ?hn ?hr ?_; (case ho => rfl); (case hg => rfl); (case hn => rfl); (case hr => first | (go_simp; done) | (go_simp; rfl)); intro W1 hw; have n0_ := Aside0.mk (show W1.heap[w.heap.size + 1]? = some (.cells #[.int .i64 y, .int .i64 (dv2 s), .int .i64 0, .int .i64 0, .int .i64 0, .int .i64 0, .int .i64 0, .int .i64 0] 87 (0, 0)) from by rw [hw]; exact blk_drewN (blk_put (cs := #[.int .i64 y, .int .i64 0, .int .i64 0, .int .i64 0, .int .i64 0, .int .i64 0, .int .i64 0, .int .i64 0]) BT.out 1 _ rfl) _); have n1_ := Aside0.mk (show W1.heap[w.heap.size]? = some (.cells #[.int .i64 0, .int .i64 0, .int .i64 0, .int .i64 0, .int .i64 0, .int .i64 0, .int .i64 0, .int .i64 0] 87 (0, 0)) from by rw [hw]; exact blk_drewN (blk_far BR.out (by show w.heap.size ≠ w.heap.size + 1; omega) _) _); have n2_ := Aside0.mk (show W1.heap[w.heap.size + 1 + 1]? = some (.cells #[.pointer (some ⟨w.heap.size + 1, 1, none⟩), .pointer (some ⟨w.heap.size + 1, 2, none⟩), .pointer (some ⟨w.heap.size + 1, 3, none⟩), .pointer (some ⟨w.heap.size + 1, 4, none⟩)] 128 (0, 0)) from by rw [hw]; exact blk_drewN (blk_far BP.out (by show w.heap.size + 1 + 1 ≠ w.heap.size + 1; omega) _) _); have n3_ := Aside0.mk (show Below w.heap.size w W1 from by rw [hw]; exact pw_below_drewN (below_set HB.out (by omega)) _); clear BT BR BP HB p0 p1 p2 p3 hw; clear ct0 ctf0 ct1 ctf1 ct2 ctf2 ct3 ctf3 ct4 ctf4 ct5 ctf5 ct6 ctf6 ct7 ctf7; have BT := n0_; have BR := n1_; have BP := n2_; have HB := n3_; clear n0_ n1_ n2_ n3_))
  rw [rounds_succ]
  have p0 := (blk_cell BP.out 0).trans (show _ = some (.pointer (some ⟨w.heap.size + 1, 1, none⟩)) from rfl); have p1 := (blk_cell BP.out 1).trans (show _ = some (.pointer (some ⟨w.heap.size + 1, 2, none⟩)) from rfl); have p2 := (blk_cell BP.out 2).trans (show _ = some (.pointer (some ⟨w.heap.size + 1, 3, none⟩)) from rfl); have p3 := (blk_cell BP.out 3).trans (show _ = some (.pointer (some ⟨w.heap.size + 1, 4, none⟩)) from rfl); have ct0 := (blk_cell BT.out 0).trans (show _ = some (.int .i64 y) from rfl); have ctf0 := blk_frozen BT.out 0; have ct1 := (blk_cell BT.out 1).trans (show _ = some (.int .i64 (dv2 s)) from rfl); have ctf1 := blk_frozen BT.out 1; have ct2 := (blk_cell BT.out 2).trans (show _ = some (.int .i64 0) from rfl); have ctf2 := blk_frozen BT.out 2; have ct3 := (blk_cell BT.out 3).trans (show _ = some (.int .i64 0) from rfl); have ctf3 := blk_frozen BT.out 3; have ct4 := (blk_cell BT.out 4).trans (show _ = some (.int .i64 0) from rfl); have ctf4 := blk_frozen BT.out 4; have ct5 := (blk_cell BT.out 5).trans (show _ = some (.int .i64 0) from rfl); have ctf5 := blk_frozen BT.out 5; have ct6 := (blk_cell BT.out 6).trans (show _ = some (.int .i64 0) from rfl); have ctf6 := blk_frozen BT.out 6; have ct7 := (blk_cell BT.out 7).trans (show _ = some (.int .i64 0) from rfl); have ctf7 := blk_frozen BT.out 7
  have cr0 := (blk_cell BR.out 0).trans (show _ = some (.int .i64 0) from rfl); have crf0 := blk_frozen BR.out 0; have cr1 := (blk_cell BR.out 1).trans (show _ = some (.int .i64 0) from rfl); have crf1 := blk_frozen BR.out 1; have cr2 := (blk_cell BR.out 2).trans (show _ = some (.int .i64 0) from rfl); have crf2 := blk_frozen BR.out 2; have cr3 := (blk_cell BR.out 3).trans (show _ = some (.int .i64 0) from rfl); have crf3 := blk_frozen BR.out 3; have cr4 := (blk_cell BR.out 4).trans (show _ = some (.int .i64 0) from rfl); have crf4 := blk_frozen BR.out 4; have cr5 := (blk_cell BR.out 5).trans (show _ = some (.int .i64 0) from rfl); have crf5 := blk_frozen BR.out 5; have cr6 := (blk_cell BR.out 6).trans (show _ = some (.int .i64 0) from rfl); have crf6 := blk_frozen BR.out 6; have cr7 := (blk_cell BR.out 7).trans (show _ = some (.int .i64 0) from rfl); have crf7 := blk_frozen BR.out 7
  go_wp2_with (first
    | (go_at_call 98; (with_reducible refine (dig2_no (dr2 s) _ H1.out).mono ?_); rintro e w1 ⟨rfl, ⟨n1, rfl⟩⟩)
    | ((with_reducible refine gate_store (t := 87) (p := 4) rfl ?_); refine store_event (t := 87) (p := 4) (v := ?vo1) (w1 := (put8 W1 (w.heap.size) (.int .i64 y) (.int .i64 (dv2 s)) (.int .i64 0) (.int .i64 0) (.int .i64 0) (.int .i64 0) (.int .i64 0) (.int .i64 0)).drewN n1) ?hg ?ho ?hn ?hr ?_; (case ho => rfl); (case hg => rfl); (case hn => rfl); (case hr => first | (go_simp; done) | (go_simp; rfl)); intro W2 hw; have BX := Aside0.mk (show W2.heap[w.heap.size]? = some (.cells #[.int .i64 y, .int .i64 (dv2 s), .int .i64 0, .int .i64 0, .int .i64 0, .int .i64 0, .int .i64 0, .int .i64 0] 87 (0, 0)) from by rw [hw]; exact blk_drewN (put8_blk BR.out (.int .i64 y) (.int .i64 (dv2 s)) (.int .i64 0) (.int .i64 0) (.int .i64 0) (.int .i64 0) (.int .i64 0) (.int .i64 0)) _); have HX := Aside0.mk (show Below w.heap.size w W2 from by rw [hw]; exact pw_below_drewN (HB.out.grown (put8_grown W1 (w.heap.size) (.int .i64 y) (.int .i64 (dv2 s)) (.int .i64 0) (.int .i64 0) (.int .i64 0) (.int .i64 0) (.int .i64 0) (.int .i64 0)) (below_size HB.out) (fun q hq => by cases hq; exact Nat.le_refl _)) _); clear hw))
  refine bodyPost_ret (results_ctt rfl _ _ (w.heap.size) 87 #[.int .i64 y, .int .i64 (dv2 s), .int .i64 0, .int .i64 0, .int .i64 0, .int .i64 0, .int .i64 0, .int .i64 0] (0, 0) _ rfl BX.out Try.underlying87 rfl (by kernel_rfl)) rfl ?_
  exact ⟨_, _, _, _, _, _, _, _, (dr2 s), rfl, HX.out⟩
set_option maxHeartbeats 8000000 in
set_option maxRecDepth 100000 in
theorem zzDate_no2 (y : Int) (s : ByteArray) (w : World) (h0 : dg2 s = true) (h1 : dg2 (dr2 s) = true) (h2 : dg2 (dr2 (dr2 s)) = false) :
    Calls Try.prog 99 #[.int .i64 y, .string s] w (DateNo w) := by
  have H0 := Aside0.mk h0
  have H1 := Aside0.mk h1
  have H2 := Aside0.mk h2
  clear h0 h1 h2
  go_enter Try.func99, Try.ntmps99
  go_wp2
  generalize hW : ((w.alloc (.cells #[.int .i64 0, .int .i64 0, .int .i64 0, .int .i64 0, .int .i64 0, .int .i64 0, .int .i64 0, .int .i64 0] 87 (0, 0))).alloc (.cells #[.int .i64 y, .int .i64 0, .int .i64 0, .int .i64 0, .int .i64 0, .int .i64 0, .int .i64 0, .int .i64 0] 87 (0, 0))).alloc (.cells #[.pointer (some ⟨w.heap.size + 1, 1, none⟩), .pointer (some ⟨w.heap.size + 1, 2, none⟩), .pointer (some ⟨w.heap.size + 1, 3, none⟩), .pointer (some ⟨w.heap.size + 1, 4, none⟩)] 128 (0, 0)) = W0
  have BR := Aside0.mk (show W0.heap[w.heap.size]? = some (.cells #[.int .i64 0, .int .i64 0, .int .i64 0, .int .i64 0, .int .i64 0, .int .i64 0, .int .i64 0, .int .i64 0] 87 (0, 0)) from by rw [← hW]; exact blk_alloc (blk_alloc (blk_new w _) _) _)
  have BT := Aside0.mk (show W0.heap[w.heap.size + 1]? = some (.cells #[.int .i64 y, .int .i64 0, .int .i64 0, .int .i64 0, .int .i64 0, .int .i64 0, .int .i64 0, .int .i64 0] 87 (0, 0)) from by rw [← hW]; exact blk_alloc (by have := blk_new (w.alloc (.cells #[.int .i64 0, .int .i64 0, .int .i64 0, .int .i64 0, .int .i64 0, .int .i64 0, .int .i64 0, .int .i64 0] 87 (0, 0))) (.cells #[.int .i64 y, .int .i64 0, .int .i64 0, .int .i64 0, .int .i64 0, .int .i64 0, .int .i64 0, .int .i64 0] 87 (0, 0)); simpa using this) _)
  have BP := Aside0.mk (show W0.heap[w.heap.size + 1 + 1]? = some (.cells #[.pointer (some ⟨w.heap.size + 1, 1, none⟩), .pointer (some ⟨w.heap.size + 1, 2, none⟩), .pointer (some ⟨w.heap.size + 1, 3, none⟩), .pointer (some ⟨w.heap.size + 1, 4, none⟩)] 128 (0, 0)) from by rw [← hW]; have := blk_new ((w.alloc (.cells #[.int .i64 0, .int .i64 0, .int .i64 0, .int .i64 0, .int .i64 0, .int .i64 0, .int .i64 0, .int .i64 0] 87 (0, 0))).alloc (.cells #[.int .i64 y, .int .i64 0, .int .i64 0, .int .i64 0, .int .i64 0, .int .i64 0, .int .i64 0, .int .i64 0] 87 (0, 0))) (.cells #[.pointer (some ⟨w.heap.size + 1, 1, none⟩), .pointer (some ⟨w.heap.size + 1, 2, none⟩), .pointer (some ⟨w.heap.size + 1, 3, none⟩), .pointer (some ⟨w.heap.size + 1, 4, none⟩)] 128 (0, 0)); simpa using this)
  have HB := Aside0.mk (show Below w.heap.size w W0 from by rw [← hW]; exact below_alloc (below_alloc (below_alloc (Below.refl _ _) _) _) _)
  clear hW
  refine wp_loop_rounds 5 ?_
  rw [rounds_succ]
  have p0 := (blk_cell BP.out 0).trans (show _ = some (.pointer (some ⟨w.heap.size + 1, 1, none⟩)) from rfl); have p1 := (blk_cell BP.out 1).trans (show _ = some (.pointer (some ⟨w.heap.size + 1, 2, none⟩)) from rfl); have p2 := (blk_cell BP.out 2).trans (show _ = some (.pointer (some ⟨w.heap.size + 1, 3, none⟩)) from rfl); have p3 := (blk_cell BP.out 3).trans (show _ = some (.pointer (some ⟨w.heap.size + 1, 4, none⟩)) from rfl); have ct0 := (blk_cell BT.out 0).trans (show _ = some (.int .i64 y) from rfl); have ctf0 := blk_frozen BT.out 0; have ct1 := (blk_cell BT.out 1).trans (show _ = some (.int .i64 0) from rfl); have ctf1 := blk_frozen BT.out 1; have ct2 := (blk_cell BT.out 2).trans (show _ = some (.int .i64 0) from rfl); have ctf2 := blk_frozen BT.out 2; have ct3 := (blk_cell BT.out 3).trans (show _ = some (.int .i64 0) from rfl); have ctf3 := blk_frozen BT.out 3; have ct4 := (blk_cell BT.out 4).trans (show _ = some (.int .i64 0) from rfl); have ctf4 := blk_frozen BT.out 4; have ct5 := (blk_cell BT.out 5).trans (show _ = some (.int .i64 0) from rfl); have ctf5 := blk_frozen BT.out 5; have ct6 := (blk_cell BT.out 6).trans (show _ = some (.int .i64 0) from rfl); have ctf6 := blk_frozen BT.out 6; have ct7 := (blk_cell BT.out 7).trans (show _ = some (.int .i64 0) from rfl); have ctf7 := blk_frozen BT.out 7
  go_wp2_with (first
    | (go_at_call 98; (with_reducible refine (dig2_yes s _ H0.out).mono ?_); rintro e w1 ⟨rfl, ⟨n0, rfl⟩⟩)
    | ((with_reducible refine gate_store (t := 3) (p := 39) rfl ?_); refine store_event (t := 3) (p := 39) (v := ?vo0) (w1 := (W0.setCell ⟨w.heap.size + 1, 1, none⟩ (.int .i64 (dv2 s))).drewN n0) ?hg ?ho ?hn ?hr ?_; (case ho => rfl); (case hg => rfl); (case hn => rfl); (case hr => first | (go_simp; done) | (go_simp; rfl)); intro W1 hw; have n0_ := Aside0.mk (show W1.heap[w.heap.size + 1]? = some (.cells #[.int .i64 y, .int .i64 (dv2 s), .int .i64 0, .int .i64 0, .int .i64 0, .int .i64 0, .int .i64 0, .int .i64 0] 87 (0, 0)) from by rw [hw]; exact blk_drewN (blk_put (cs := #[.int .i64 y, .int .i64 0, .int .i64 0, .int .i64 0, .int .i64 0, .int .i64 0, .int .i64 0, .int .i64 0]) BT.out 1 _ rfl) _); have n1_ := Aside0.mk (show W1.heap[w.heap.size]? = some (.cells #[.int .i64 0, .int .i64 0, .int .i64 0, .int .i64 0, .int .i64 0, .int .i64 0, .int .i64 0, .int .i64 0] 87 (0, 0)) from by rw [hw]; exact blk_drewN (blk_far BR.out (by show w.heap.size ≠ w.heap.size + 1; omega) _) _); have n2_ := Aside0.mk (show W1.heap[w.heap.size + 1 + 1]? = some (.cells #[.pointer (some ⟨w.heap.size + 1, 1, none⟩), .pointer (some ⟨w.heap.size + 1, 2, none⟩), .pointer (some ⟨w.heap.size + 1, 3, none⟩), .pointer (some ⟨w.heap.size + 1, 4, none⟩)] 128 (0, 0)) from by rw [hw]; exact blk_drewN (blk_far BP.out (by show w.heap.size + 1 + 1 ≠ w.heap.size + 1; omega) _) _); have n3_ := Aside0.mk (show Below w.heap.size w W1 from by rw [hw]; exact pw_below_drewN (below_set HB.out (by omega)) _); clear BT BR BP HB p0 p1 p2 p3 hw; clear ct0 ctf0 ct1 ctf1 ct2 ctf2 ct3 ctf3 ct4 ctf4 ct5 ctf5 ct6 ctf6 ct7 ctf7; have BT := n0_; have BR := n1_; have BP := n2_; have HB := n3_; clear n0_ n1_ n2_ n3_))
  rw [rounds_succ]
  have p0 := (blk_cell BP.out 0).trans (show _ = some (.pointer (some ⟨w.heap.size + 1, 1, none⟩)) from rfl); have p1 := (blk_cell BP.out 1).trans (show _ = some (.pointer (some ⟨w.heap.size + 1, 2, none⟩)) from rfl); have p2 := (blk_cell BP.out 2).trans (show _ = some (.pointer (some ⟨w.heap.size + 1, 3, none⟩)) from rfl); have p3 := (blk_cell BP.out 3).trans (show _ = some (.pointer (some ⟨w.heap.size + 1, 4, none⟩)) from rfl); have ct0 := (blk_cell BT.out 0).trans (show _ = some (.int .i64 y) from rfl); have ctf0 := blk_frozen BT.out 0; have ct1 := (blk_cell BT.out 1).trans (show _ = some (.int .i64 (dv2 s)) from rfl); have ctf1 := blk_frozen BT.out 1; have ct2 := (blk_cell BT.out 2).trans (show _ = some (.int .i64 0) from rfl); have ctf2 := blk_frozen BT.out 2; have ct3 := (blk_cell BT.out 3).trans (show _ = some (.int .i64 0) from rfl); have ctf3 := blk_frozen BT.out 3; have ct4 := (blk_cell BT.out 4).trans (show _ = some (.int .i64 0) from rfl); have ctf4 := blk_frozen BT.out 4; have ct5 := (blk_cell BT.out 5).trans (show _ = some (.int .i64 0) from rfl); have ctf5 := blk_frozen BT.out 5; have ct6 := (blk_cell BT.out 6).trans (show _ = some (.int .i64 0) from rfl); have ctf6 := blk_frozen BT.out 6; have ct7 := (blk_cell BT.out 7).trans (show _ = some (.int .i64 0) from rfl); have ctf7 := blk_frozen BT.out 7
  go_wp2_with (first
    | (go_at_call 98; (with_reducible refine (dig2_yes (dr2 s) _ H1.out).mono ?_); rintro e w1 ⟨rfl, ⟨n1, rfl⟩⟩)
    | ((with_reducible refine gate_store (t := 3) (p := 39) rfl ?_); refine store_event (t := 3) (p := 39) (v := ?vo1) (w1 := (W1.setCell ⟨w.heap.size + 1, 2, none⟩ (.int .i64 (dv2 (dr2 s)))).drewN n1) ?hg ?ho ?hn ?hr ?_; (case ho => rfl); (case hg => rfl); (case hn => rfl); (case hr => first | (go_simp; done) | (go_simp; rfl)); intro W2 hw; have n0_ := Aside0.mk (show W2.heap[w.heap.size + 1]? = some (.cells #[.int .i64 y, .int .i64 (dv2 s), .int .i64 (dv2 (dr2 s)), .int .i64 0, .int .i64 0, .int .i64 0, .int .i64 0, .int .i64 0] 87 (0, 0)) from by rw [hw]; exact blk_drewN (blk_put (cs := #[.int .i64 y, .int .i64 (dv2 s), .int .i64 0, .int .i64 0, .int .i64 0, .int .i64 0, .int .i64 0, .int .i64 0]) BT.out 2 _ rfl) _); have n1_ := Aside0.mk (show W2.heap[w.heap.size]? = some (.cells #[.int .i64 0, .int .i64 0, .int .i64 0, .int .i64 0, .int .i64 0, .int .i64 0, .int .i64 0, .int .i64 0] 87 (0, 0)) from by rw [hw]; exact blk_drewN (blk_far BR.out (by show w.heap.size ≠ w.heap.size + 1; omega) _) _); have n2_ := Aside0.mk (show W2.heap[w.heap.size + 1 + 1]? = some (.cells #[.pointer (some ⟨w.heap.size + 1, 1, none⟩), .pointer (some ⟨w.heap.size + 1, 2, none⟩), .pointer (some ⟨w.heap.size + 1, 3, none⟩), .pointer (some ⟨w.heap.size + 1, 4, none⟩)] 128 (0, 0)) from by rw [hw]; exact blk_drewN (blk_far BP.out (by show w.heap.size + 1 + 1 ≠ w.heap.size + 1; omega) _) _); have n3_ := Aside0.mk (show Below w.heap.size w W2 from by rw [hw]; exact pw_below_drewN (below_set HB.out (by omega)) _); clear BT BR BP HB p0 p1 p2 p3 hw; clear ct0 ctf0 ct1 ctf1 ct2 ctf2 ct3 ctf3 ct4 ctf4 ct5 ctf5 ct6 ctf6 ct7 ctf7; have BT := n0_; have BR := n1_; have BP := n2_; have HB := n3_; clear n0_ n1_ n2_ n3_))
  rw [rounds_succ]
  have p0 := (blk_cell BP.out 0).trans (show _ = some (.pointer (some ⟨w.heap.size + 1, 1, none⟩)) from rfl); have p1 := (blk_cell BP.out 1).trans (show _ = some (.pointer (some ⟨w.heap.size + 1, 2, none⟩)) from rfl); have p2 := (blk_cell BP.out 2).trans (show _ = some (.pointer (some ⟨w.heap.size + 1, 3, none⟩)) from rfl); have p3 := (blk_cell BP.out 3).trans (show _ = some (.pointer (some ⟨w.heap.size + 1, 4, none⟩)) from rfl); have ct0 := (blk_cell BT.out 0).trans (show _ = some (.int .i64 y) from rfl); have ctf0 := blk_frozen BT.out 0; have ct1 := (blk_cell BT.out 1).trans (show _ = some (.int .i64 (dv2 s)) from rfl); have ctf1 := blk_frozen BT.out 1; have ct2 := (blk_cell BT.out 2).trans (show _ = some (.int .i64 (dv2 (dr2 s))) from rfl); have ctf2 := blk_frozen BT.out 2; have ct3 := (blk_cell BT.out 3).trans (show _ = some (.int .i64 0) from rfl); have ctf3 := blk_frozen BT.out 3; have ct4 := (blk_cell BT.out 4).trans (show _ = some (.int .i64 0) from rfl); have ctf4 := blk_frozen BT.out 4; have ct5 := (blk_cell BT.out 5).trans (show _ = some (.int .i64 0) from rfl); have ctf5 := blk_frozen BT.out 5; have ct6 := (blk_cell BT.out 6).trans (show _ = some (.int .i64 0) from rfl); have ctf6 := blk_frozen BT.out 6; have ct7 := (blk_cell BT.out 7).trans (show _ = some (.int .i64 0) from rfl); have ctf7 := blk_frozen BT.out 7
  have cr0 := (blk_cell BR.out 0).trans (show _ = some (.int .i64 0) from rfl); have crf0 := blk_frozen BR.out 0; have cr1 := (blk_cell BR.out 1).trans (show _ = some (.int .i64 0) from rfl); have crf1 := blk_frozen BR.out 1; have cr2 := (blk_cell BR.out 2).trans (show _ = some (.int .i64 0) from rfl); have crf2 := blk_frozen BR.out 2; have cr3 := (blk_cell BR.out 3).trans (show _ = some (.int .i64 0) from rfl); have crf3 := blk_frozen BR.out 3; have cr4 := (blk_cell BR.out 4).trans (show _ = some (.int .i64 0) from rfl); have crf4 := blk_frozen BR.out 4; have cr5 := (blk_cell BR.out 5).trans (show _ = some (.int .i64 0) from rfl); have crf5 := blk_frozen BR.out 5; have cr6 := (blk_cell BR.out 6).trans (show _ = some (.int .i64 0) from rfl); have crf6 := blk_frozen BR.out 6; have cr7 := (blk_cell BR.out 7).trans (show _ = some (.int .i64 0) from rfl); have crf7 := blk_frozen BR.out 7
  go_wp2_with (first
    | (go_at_call 98; (with_reducible refine (dig2_no (dr2 (dr2 s)) _ H2.out).mono ?_); rintro e w1 ⟨rfl, ⟨n2, rfl⟩⟩)
    | ((with_reducible refine gate_store (t := 87) (p := 4) rfl ?_); refine store_event (t := 87) (p := 4) (v := ?vo2) (w1 := (put8 W2 (w.heap.size) (.int .i64 y) (.int .i64 (dv2 s)) (.int .i64 (dv2 (dr2 s))) (.int .i64 0) (.int .i64 0) (.int .i64 0) (.int .i64 0) (.int .i64 0)).drewN n2) ?hg ?ho ?hn ?hr ?_; (case ho => rfl); (case hg => rfl); (case hn => rfl); (case hr => first | (go_simp; done) | (go_simp; rfl)); intro W3 hw; have BX := Aside0.mk (show W3.heap[w.heap.size]? = some (.cells #[.int .i64 y, .int .i64 (dv2 s), .int .i64 (dv2 (dr2 s)), .int .i64 0, .int .i64 0, .int .i64 0, .int .i64 0, .int .i64 0] 87 (0, 0)) from by rw [hw]; exact blk_drewN (put8_blk BR.out (.int .i64 y) (.int .i64 (dv2 s)) (.int .i64 (dv2 (dr2 s))) (.int .i64 0) (.int .i64 0) (.int .i64 0) (.int .i64 0) (.int .i64 0)) _); have HX := Aside0.mk (show Below w.heap.size w W3 from by rw [hw]; exact pw_below_drewN (HB.out.grown (put8_grown W2 (w.heap.size) (.int .i64 y) (.int .i64 (dv2 s)) (.int .i64 (dv2 (dr2 s))) (.int .i64 0) (.int .i64 0) (.int .i64 0) (.int .i64 0) (.int .i64 0)) (below_size HB.out) (fun q hq => by cases hq; exact Nat.le_refl _)) _); clear hw))
  refine bodyPost_ret (results_ctt rfl _ _ (w.heap.size) 87 #[.int .i64 y, .int .i64 (dv2 s), .int .i64 (dv2 (dr2 s)), .int .i64 0, .int .i64 0, .int .i64 0, .int .i64 0, .int .i64 0] (0, 0) _ rfl BX.out Try.underlying87 rfl (by kernel_rfl)) rfl ?_
  exact ⟨_, _, _, _, _, _, _, _, (dr2 (dr2 s)), rfl, HX.out⟩
set_option maxHeartbeats 8000000 in
set_option maxRecDepth 100000 in
theorem zzDate_no3 (y : Int) (s : ByteArray) (w : World) (h0 : dg2 s = true) (h1 : dg2 (dr2 s) = true) (h2 : dg2 (dr2 (dr2 s)) = true) (h3 : dg2 (dr2 (dr2 (dr2 s))) = false) :
    Calls Try.prog 99 #[.int .i64 y, .string s] w (DateNo w) := by
  have H0 := Aside0.mk h0
  have H1 := Aside0.mk h1
  have H2 := Aside0.mk h2
  have H3 := Aside0.mk h3
  clear h0 h1 h2 h3
  go_enter Try.func99, Try.ntmps99
  go_wp2
  generalize hW : ((w.alloc (.cells #[.int .i64 0, .int .i64 0, .int .i64 0, .int .i64 0, .int .i64 0, .int .i64 0, .int .i64 0, .int .i64 0] 87 (0, 0))).alloc (.cells #[.int .i64 y, .int .i64 0, .int .i64 0, .int .i64 0, .int .i64 0, .int .i64 0, .int .i64 0, .int .i64 0] 87 (0, 0))).alloc (.cells #[.pointer (some ⟨w.heap.size + 1, 1, none⟩), .pointer (some ⟨w.heap.size + 1, 2, none⟩), .pointer (some ⟨w.heap.size + 1, 3, none⟩), .pointer (some ⟨w.heap.size + 1, 4, none⟩)] 128 (0, 0)) = W0
  have BR := Aside0.mk (show W0.heap[w.heap.size]? = some (.cells #[.int .i64 0, .int .i64 0, .int .i64 0, .int .i64 0, .int .i64 0, .int .i64 0, .int .i64 0, .int .i64 0] 87 (0, 0)) from by rw [← hW]; exact blk_alloc (blk_alloc (blk_new w _) _) _)
  have BT := Aside0.mk (show W0.heap[w.heap.size + 1]? = some (.cells #[.int .i64 y, .int .i64 0, .int .i64 0, .int .i64 0, .int .i64 0, .int .i64 0, .int .i64 0, .int .i64 0] 87 (0, 0)) from by rw [← hW]; exact blk_alloc (by have := blk_new (w.alloc (.cells #[.int .i64 0, .int .i64 0, .int .i64 0, .int .i64 0, .int .i64 0, .int .i64 0, .int .i64 0, .int .i64 0] 87 (0, 0))) (.cells #[.int .i64 y, .int .i64 0, .int .i64 0, .int .i64 0, .int .i64 0, .int .i64 0, .int .i64 0, .int .i64 0] 87 (0, 0)); simpa using this) _)
  have BP := Aside0.mk (show W0.heap[w.heap.size + 1 + 1]? = some (.cells #[.pointer (some ⟨w.heap.size + 1, 1, none⟩), .pointer (some ⟨w.heap.size + 1, 2, none⟩), .pointer (some ⟨w.heap.size + 1, 3, none⟩), .pointer (some ⟨w.heap.size + 1, 4, none⟩)] 128 (0, 0)) from by rw [← hW]; have := blk_new ((w.alloc (.cells #[.int .i64 0, .int .i64 0, .int .i64 0, .int .i64 0, .int .i64 0, .int .i64 0, .int .i64 0, .int .i64 0] 87 (0, 0))).alloc (.cells #[.int .i64 y, .int .i64 0, .int .i64 0, .int .i64 0, .int .i64 0, .int .i64 0, .int .i64 0, .int .i64 0] 87 (0, 0))) (.cells #[.pointer (some ⟨w.heap.size + 1, 1, none⟩), .pointer (some ⟨w.heap.size + 1, 2, none⟩), .pointer (some ⟨w.heap.size + 1, 3, none⟩), .pointer (some ⟨w.heap.size + 1, 4, none⟩)] 128 (0, 0)); simpa using this)
  have HB := Aside0.mk (show Below w.heap.size w W0 from by rw [← hW]; exact below_alloc (below_alloc (below_alloc (Below.refl _ _) _) _) _)
  clear hW
  refine wp_loop_rounds 5 ?_
  rw [rounds_succ]
  have p0 := (blk_cell BP.out 0).trans (show _ = some (.pointer (some ⟨w.heap.size + 1, 1, none⟩)) from rfl); have p1 := (blk_cell BP.out 1).trans (show _ = some (.pointer (some ⟨w.heap.size + 1, 2, none⟩)) from rfl); have p2 := (blk_cell BP.out 2).trans (show _ = some (.pointer (some ⟨w.heap.size + 1, 3, none⟩)) from rfl); have p3 := (blk_cell BP.out 3).trans (show _ = some (.pointer (some ⟨w.heap.size + 1, 4, none⟩)) from rfl); have ct0 := (blk_cell BT.out 0).trans (show _ = some (.int .i64 y) from rfl); have ctf0 := blk_frozen BT.out 0; have ct1 := (blk_cell BT.out 1).trans (show _ = some (.int .i64 0) from rfl); have ctf1 := blk_frozen BT.out 1; have ct2 := (blk_cell BT.out 2).trans (show _ = some (.int .i64 0) from rfl); have ctf2 := blk_frozen BT.out 2; have ct3 := (blk_cell BT.out 3).trans (show _ = some (.int .i64 0) from rfl); have ctf3 := blk_frozen BT.out 3; have ct4 := (blk_cell BT.out 4).trans (show _ = some (.int .i64 0) from rfl); have ctf4 := blk_frozen BT.out 4; have ct5 := (blk_cell BT.out 5).trans (show _ = some (.int .i64 0) from rfl); have ctf5 := blk_frozen BT.out 5; have ct6 := (blk_cell BT.out 6).trans (show _ = some (.int .i64 0) from rfl); have ctf6 := blk_frozen BT.out 6; have ct7 := (blk_cell BT.out 7).trans (show _ = some (.int .i64 0) from rfl); have ctf7 := blk_frozen BT.out 7
  go_wp2_with (first
    | (go_at_call 98; (with_reducible refine (dig2_yes s _ H0.out).mono ?_); rintro e w1 ⟨rfl, ⟨n0, rfl⟩⟩)
    | ((with_reducible refine gate_store (t := 3) (p := 39) rfl ?_); refine store_event (t := 3) (p := 39) (v := ?vo0) (w1 := (W0.setCell ⟨w.heap.size + 1, 1, none⟩ (.int .i64 (dv2 s))).drewN n0) ?hg ?ho ?hn ?hr ?_; (case ho => rfl); (case hg => rfl); (case hn => rfl); (case hr => first | (go_simp; done) | (go_simp; rfl)); intro W1 hw; have n0_ := Aside0.mk (show W1.heap[w.heap.size + 1]? = some (.cells #[.int .i64 y, .int .i64 (dv2 s), .int .i64 0, .int .i64 0, .int .i64 0, .int .i64 0, .int .i64 0, .int .i64 0] 87 (0, 0)) from by rw [hw]; exact blk_drewN (blk_put (cs := #[.int .i64 y, .int .i64 0, .int .i64 0, .int .i64 0, .int .i64 0, .int .i64 0, .int .i64 0, .int .i64 0]) BT.out 1 _ rfl) _); have n1_ := Aside0.mk (show W1.heap[w.heap.size]? = some (.cells #[.int .i64 0, .int .i64 0, .int .i64 0, .int .i64 0, .int .i64 0, .int .i64 0, .int .i64 0, .int .i64 0] 87 (0, 0)) from by rw [hw]; exact blk_drewN (blk_far BR.out (by show w.heap.size ≠ w.heap.size + 1; omega) _) _); have n2_ := Aside0.mk (show W1.heap[w.heap.size + 1 + 1]? = some (.cells #[.pointer (some ⟨w.heap.size + 1, 1, none⟩), .pointer (some ⟨w.heap.size + 1, 2, none⟩), .pointer (some ⟨w.heap.size + 1, 3, none⟩), .pointer (some ⟨w.heap.size + 1, 4, none⟩)] 128 (0, 0)) from by rw [hw]; exact blk_drewN (blk_far BP.out (by show w.heap.size + 1 + 1 ≠ w.heap.size + 1; omega) _) _); have n3_ := Aside0.mk (show Below w.heap.size w W1 from by rw [hw]; exact pw_below_drewN (below_set HB.out (by omega)) _); clear BT BR BP HB p0 p1 p2 p3 hw; clear ct0 ctf0 ct1 ctf1 ct2 ctf2 ct3 ctf3 ct4 ctf4 ct5 ctf5 ct6 ctf6 ct7 ctf7; have BT := n0_; have BR := n1_; have BP := n2_; have HB := n3_; clear n0_ n1_ n2_ n3_))
  rw [rounds_succ]
  have p0 := (blk_cell BP.out 0).trans (show _ = some (.pointer (some ⟨w.heap.size + 1, 1, none⟩)) from rfl); have p1 := (blk_cell BP.out 1).trans (show _ = some (.pointer (some ⟨w.heap.size + 1, 2, none⟩)) from rfl); have p2 := (blk_cell BP.out 2).trans (show _ = some (.pointer (some ⟨w.heap.size + 1, 3, none⟩)) from rfl); have p3 := (blk_cell BP.out 3).trans (show _ = some (.pointer (some ⟨w.heap.size + 1, 4, none⟩)) from rfl); have ct0 := (blk_cell BT.out 0).trans (show _ = some (.int .i64 y) from rfl); have ctf0 := blk_frozen BT.out 0; have ct1 := (blk_cell BT.out 1).trans (show _ = some (.int .i64 (dv2 s)) from rfl); have ctf1 := blk_frozen BT.out 1; have ct2 := (blk_cell BT.out 2).trans (show _ = some (.int .i64 0) from rfl); have ctf2 := blk_frozen BT.out 2; have ct3 := (blk_cell BT.out 3).trans (show _ = some (.int .i64 0) from rfl); have ctf3 := blk_frozen BT.out 3; have ct4 := (blk_cell BT.out 4).trans (show _ = some (.int .i64 0) from rfl); have ctf4 := blk_frozen BT.out 4; have ct5 := (blk_cell BT.out 5).trans (show _ = some (.int .i64 0) from rfl); have ctf5 := blk_frozen BT.out 5; have ct6 := (blk_cell BT.out 6).trans (show _ = some (.int .i64 0) from rfl); have ctf6 := blk_frozen BT.out 6; have ct7 := (blk_cell BT.out 7).trans (show _ = some (.int .i64 0) from rfl); have ctf7 := blk_frozen BT.out 7
  go_wp2_with (first
    | (go_at_call 98; (with_reducible refine (dig2_yes (dr2 s) _ H1.out).mono ?_); rintro e w1 ⟨rfl, ⟨n1, rfl⟩⟩)
    | ((with_reducible refine gate_store (t := 3) (p := 39) rfl ?_); refine store_event (t := 3) (p := 39) (v := ?vo1) (w1 := (W1.setCell ⟨w.heap.size + 1, 2, none⟩ (.int .i64 (dv2 (dr2 s)))).drewN n1) ?hg ?ho ?hn ?hr ?_; (case ho => rfl); (case hg => rfl); (case hn => rfl); (case hr => first | (go_simp; done) | (go_simp; rfl)); intro W2 hw; have n0_ := Aside0.mk (show W2.heap[w.heap.size + 1]? = some (.cells #[.int .i64 y, .int .i64 (dv2 s), .int .i64 (dv2 (dr2 s)), .int .i64 0, .int .i64 0, .int .i64 0, .int .i64 0, .int .i64 0] 87 (0, 0)) from by rw [hw]; exact blk_drewN (blk_put (cs := #[.int .i64 y, .int .i64 (dv2 s), .int .i64 0, .int .i64 0, .int .i64 0, .int .i64 0, .int .i64 0, .int .i64 0]) BT.out 2 _ rfl) _); have n1_ := Aside0.mk (show W2.heap[w.heap.size]? = some (.cells #[.int .i64 0, .int .i64 0, .int .i64 0, .int .i64 0, .int .i64 0, .int .i64 0, .int .i64 0, .int .i64 0] 87 (0, 0)) from by rw [hw]; exact blk_drewN (blk_far BR.out (by show w.heap.size ≠ w.heap.size + 1; omega) _) _); have n2_ := Aside0.mk (show W2.heap[w.heap.size + 1 + 1]? = some (.cells #[.pointer (some ⟨w.heap.size + 1, 1, none⟩), .pointer (some ⟨w.heap.size + 1, 2, none⟩), .pointer (some ⟨w.heap.size + 1, 3, none⟩), .pointer (some ⟨w.heap.size + 1, 4, none⟩)] 128 (0, 0)) from by rw [hw]; exact blk_drewN (blk_far BP.out (by show w.heap.size + 1 + 1 ≠ w.heap.size + 1; omega) _) _); have n3_ := Aside0.mk (show Below w.heap.size w W2 from by rw [hw]; exact pw_below_drewN (below_set HB.out (by omega)) _); clear BT BR BP HB p0 p1 p2 p3 hw; clear ct0 ctf0 ct1 ctf1 ct2 ctf2 ct3 ctf3 ct4 ctf4 ct5 ctf5 ct6 ctf6 ct7 ctf7; have BT := n0_; have BR := n1_; have BP := n2_; have HB := n3_; clear n0_ n1_ n2_ n3_))
  rw [rounds_succ]
  have p0 := (blk_cell BP.out 0).trans (show _ = some (.pointer (some ⟨w.heap.size + 1, 1, none⟩)) from rfl); have p1 := (blk_cell BP.out 1).trans (show _ = some (.pointer (some ⟨w.heap.size + 1, 2, none⟩)) from rfl); have p2 := (blk_cell BP.out 2).trans (show _ = some (.pointer (some ⟨w.heap.size + 1, 3, none⟩)) from rfl); have p3 := (blk_cell BP.out 3).trans (show _ = some (.pointer (some ⟨w.heap.size + 1, 4, none⟩)) from rfl); have ct0 := (blk_cell BT.out 0).trans (show _ = some (.int .i64 y) from rfl); have ctf0 := blk_frozen BT.out 0; have ct1 := (blk_cell BT.out 1).trans (show _ = some (.int .i64 (dv2 s)) from rfl); have ctf1 := blk_frozen BT.out 1; have ct2 := (blk_cell BT.out 2).trans (show _ = some (.int .i64 (dv2 (dr2 s))) from rfl); have ctf2 := blk_frozen BT.out 2; have ct3 := (blk_cell BT.out 3).trans (show _ = some (.int .i64 0) from rfl); have ctf3 := blk_frozen BT.out 3; have ct4 := (blk_cell BT.out 4).trans (show _ = some (.int .i64 0) from rfl); have ctf4 := blk_frozen BT.out 4; have ct5 := (blk_cell BT.out 5).trans (show _ = some (.int .i64 0) from rfl); have ctf5 := blk_frozen BT.out 5; have ct6 := (blk_cell BT.out 6).trans (show _ = some (.int .i64 0) from rfl); have ctf6 := blk_frozen BT.out 6; have ct7 := (blk_cell BT.out 7).trans (show _ = some (.int .i64 0) from rfl); have ctf7 := blk_frozen BT.out 7
  go_wp2_with (first
    | (go_at_call 98; (with_reducible refine (dig2_yes (dr2 (dr2 s)) _ H2.out).mono ?_); rintro e w1 ⟨rfl, ⟨n2, rfl⟩⟩)
    | ((with_reducible refine gate_store (t := 3) (p := 39) rfl ?_); refine store_event (t := 3) (p := 39) (v := ?vo2) (w1 := (W2.setCell ⟨w.heap.size + 1, 3, none⟩ (.int .i64 (dv2 (dr2 (dr2 s))))).drewN n2) ?hg ?ho ?hn ?hr ?_; (case ho => rfl); (case hg => rfl); (case hn => rfl); (case hr => first | (go_simp; done) | (go_simp; rfl)); intro W3 hw; have n0_ := Aside0.mk (show W3.heap[w.heap.size + 1]? = some (.cells #[.int .i64 y, .int .i64 (dv2 s), .int .i64 (dv2 (dr2 s)), .int .i64 (dv2 (dr2 (dr2 s))), .int .i64 0, .int .i64 0, .int .i64 0, .int .i64 0] 87 (0, 0)) from by rw [hw]; exact blk_drewN (blk_put (cs := #[.int .i64 y, .int .i64 (dv2 s), .int .i64 (dv2 (dr2 s)), .int .i64 0, .int .i64 0, .int .i64 0, .int .i64 0, .int .i64 0]) BT.out 3 _ rfl) _); have n1_ := Aside0.mk (show W3.heap[w.heap.size]? = some (.cells #[.int .i64 0, .int .i64 0, .int .i64 0, .int .i64 0, .int .i64 0, .int .i64 0, .int .i64 0, .int .i64 0] 87 (0, 0)) from by rw [hw]; exact blk_drewN (blk_far BR.out (by show w.heap.size ≠ w.heap.size + 1; omega) _) _); have n2_ := Aside0.mk (show W3.heap[w.heap.size + 1 + 1]? = some (.cells #[.pointer (some ⟨w.heap.size + 1, 1, none⟩), .pointer (some ⟨w.heap.size + 1, 2, none⟩), .pointer (some ⟨w.heap.size + 1, 3, none⟩), .pointer (some ⟨w.heap.size + 1, 4, none⟩)] 128 (0, 0)) from by rw [hw]; exact blk_drewN (blk_far BP.out (by show w.heap.size + 1 + 1 ≠ w.heap.size + 1; omega) _) _); have n3_ := Aside0.mk (show Below w.heap.size w W3 from by rw [hw]; exact pw_below_drewN (below_set HB.out (by omega)) _); clear BT BR BP HB p0 p1 p2 p3 hw; clear ct0 ctf0 ct1 ctf1 ct2 ctf2 ct3 ctf3 ct4 ctf4 ct5 ctf5 ct6 ctf6 ct7 ctf7; have BT := n0_; have BR := n1_; have BP := n2_; have HB := n3_; clear n0_ n1_ n2_ n3_))
  rw [rounds_succ]
  have p0 := (blk_cell BP.out 0).trans (show _ = some (.pointer (some ⟨w.heap.size + 1, 1, none⟩)) from rfl); have p1 := (blk_cell BP.out 1).trans (show _ = some (.pointer (some ⟨w.heap.size + 1, 2, none⟩)) from rfl); have p2 := (blk_cell BP.out 2).trans (show _ = some (.pointer (some ⟨w.heap.size + 1, 3, none⟩)) from rfl); have p3 := (blk_cell BP.out 3).trans (show _ = some (.pointer (some ⟨w.heap.size + 1, 4, none⟩)) from rfl); have ct0 := (blk_cell BT.out 0).trans (show _ = some (.int .i64 y) from rfl); have ctf0 := blk_frozen BT.out 0; have ct1 := (blk_cell BT.out 1).trans (show _ = some (.int .i64 (dv2 s)) from rfl); have ctf1 := blk_frozen BT.out 1; have ct2 := (blk_cell BT.out 2).trans (show _ = some (.int .i64 (dv2 (dr2 s))) from rfl); have ctf2 := blk_frozen BT.out 2; have ct3 := (blk_cell BT.out 3).trans (show _ = some (.int .i64 (dv2 (dr2 (dr2 s)))) from rfl); have ctf3 := blk_frozen BT.out 3; have ct4 := (blk_cell BT.out 4).trans (show _ = some (.int .i64 0) from rfl); have ctf4 := blk_frozen BT.out 4; have ct5 := (blk_cell BT.out 5).trans (show _ = some (.int .i64 0) from rfl); have ctf5 := blk_frozen BT.out 5; have ct6 := (blk_cell BT.out 6).trans (show _ = some (.int .i64 0) from rfl); have ctf6 := blk_frozen BT.out 6; have ct7 := (blk_cell BT.out 7).trans (show _ = some (.int .i64 0) from rfl); have ctf7 := blk_frozen BT.out 7
  have cr0 := (blk_cell BR.out 0).trans (show _ = some (.int .i64 0) from rfl); have crf0 := blk_frozen BR.out 0; have cr1 := (blk_cell BR.out 1).trans (show _ = some (.int .i64 0) from rfl); have crf1 := blk_frozen BR.out 1; have cr2 := (blk_cell BR.out 2).trans (show _ = some (.int .i64 0) from rfl); have crf2 := blk_frozen BR.out 2; have cr3 := (blk_cell BR.out 3).trans (show _ = some (.int .i64 0) from rfl); have crf3 := blk_frozen BR.out 3; have cr4 := (blk_cell BR.out 4).trans (show _ = some (.int .i64 0) from rfl); have crf4 := blk_frozen BR.out 4; have cr5 := (blk_cell BR.out 5).trans (show _ = some (.int .i64 0) from rfl); have crf5 := blk_frozen BR.out 5; have cr6 := (blk_cell BR.out 6).trans (show _ = some (.int .i64 0) from rfl); have crf6 := blk_frozen BR.out 6; have cr7 := (blk_cell BR.out 7).trans (show _ = some (.int .i64 0) from rfl); have crf7 := blk_frozen BR.out 7
  go_wp2_with (first
    | (go_at_call 98; (with_reducible refine (dig2_no (dr2 (dr2 (dr2 s))) _ H3.out).mono ?_); rintro e w1 ⟨rfl, ⟨n3, rfl⟩⟩)
    | ((with_reducible refine gate_store (t := 87) (p := 4) rfl ?_); refine store_event (t := 87) (p := 4) (v := ?vo3) (w1 := (put8 W3 (w.heap.size) (.int .i64 y) (.int .i64 (dv2 s)) (.int .i64 (dv2 (dr2 s))) (.int .i64 (dv2 (dr2 (dr2 s)))) (.int .i64 0) (.int .i64 0) (.int .i64 0) (.int .i64 0)).drewN n3) ?hg ?ho ?hn ?hr ?_; (case ho => rfl); (case hg => rfl); (case hn => rfl); (case hr => first | (go_simp; done) | (go_simp; rfl)); intro W4 hw; have BX := Aside0.mk (show W4.heap[w.heap.size]? = some (.cells #[.int .i64 y, .int .i64 (dv2 s), .int .i64 (dv2 (dr2 s)), .int .i64 (dv2 (dr2 (dr2 s))), .int .i64 0, .int .i64 0, .int .i64 0, .int .i64 0] 87 (0, 0)) from by rw [hw]; exact blk_drewN (put8_blk BR.out (.int .i64 y) (.int .i64 (dv2 s)) (.int .i64 (dv2 (dr2 s))) (.int .i64 (dv2 (dr2 (dr2 s)))) (.int .i64 0) (.int .i64 0) (.int .i64 0) (.int .i64 0)) _); have HX := Aside0.mk (show Below w.heap.size w W4 from by rw [hw]; exact pw_below_drewN (HB.out.grown (put8_grown W3 (w.heap.size) (.int .i64 y) (.int .i64 (dv2 s)) (.int .i64 (dv2 (dr2 s))) (.int .i64 (dv2 (dr2 (dr2 s)))) (.int .i64 0) (.int .i64 0) (.int .i64 0) (.int .i64 0)) (below_size HB.out) (fun q hq => by cases hq; exact Nat.le_refl _)) _); clear hw))
  refine bodyPost_ret (results_ctt rfl _ _ (w.heap.size) 87 #[.int .i64 y, .int .i64 (dv2 s), .int .i64 (dv2 (dr2 s)), .int .i64 (dv2 (dr2 (dr2 s))), .int .i64 0, .int .i64 0, .int .i64 0, .int .i64 0] (0, 0) _ rfl BX.out Try.underlying87 rfl (by kernel_rfl)) rfl ?_
  exact ⟨_, _, _, _, _, _, _, _, (dr2 (dr2 (dr2 s))), rfl, HX.out⟩
theorem zzDate_no_any (y : Int) (s : ByteArray) (w : World) (h : (dg2 s && dg2 (dr2 s) && dg2 (dr2 (dr2 s)) && dg2 (dr2 (dr2 (dr2 s)))) = false) : Calls Try.prog 99 #[.int .i64 y, .string s] w (DateNo w) := by
  cases h0 : dg2 s with
  | false => exact zzDate_no0 y s w h0
  | true =>
    cases h1 : dg2 (dr2 s) with
    | false => exact zzDate_no1 y s w h0 h1
    | true =>
      cases h2 : dg2 (dr2 (dr2 s)) with
      | false => exact zzDate_no2 y s w h0 h1 h2
      | true =>
        cases h3 : dg2 (dr2 (dr2 (dr2 s))) with
        | false => exact zzDate_no3 y s w h0 h1 h2 h3
        | true => rw [h0, h1, h2, h3] at h; cases h
end

/-! ### asn1_zzZone: function 100 -/
mutual
def asn1_zzZone.j0 : Nat → ByteArray → Bool → Option (Int × Bool)
  | 0, _, _ => none
  | k + 1, x0, x25 => if x25 = true then (some (0, false)) else (if 1 ≤ (x0.size : Int) then ((asn1_zzDigits.f k (x0.extract 1 x0.size) 2).bind fun bt107 => ((asn1_zzDigits.f k bt107.2.1 2).bind fun bt110 => (if bt107.2.2 = true then (if bt110.2.2 = true then (if bt107.1 > 24 then (asn1_zzZone.j1 k x0 (wrap64 ((wrap64 (bt107.1 * 60)) + bt110.1)) true) else (if bt110.1 > 59 then (asn1_zzZone.j1 k x0 (wrap64 ((wrap64 (bt107.1 * 60)) + bt110.1)) true) else (asn1_zzZone.j1 k x0 (wrap64 ((wrap64 (bt107.1 * 60)) + bt110.1)) ((wrap64 ((wrap64 (bt107.1 * 60)) + bt110.1)) == 0)))) else (asn1_zzZone.j1 k x0 (wrap64 ((wrap64 (bt107.1 * 60)) + bt110.1)) true)) else (asn1_zzZone.j1 k x0 (wrap64 ((wrap64 (bt107.1 * 60)) + bt110.1)) true)))) else (none))
def asn1_zzZone.j1 : Nat → ByteArray → Int → Bool → Option (Int × Bool)
  | 0, _, _, _ => none
  | k + 1, x0, x10, x60 => if x60 = true then (some (0, false)) else (if 0 < (x0.size : Int) then (if (bt x0 0) = 45 then (some (wrap64 (-x10), true)) else (some (x10, true))) else (none))
end
def asn1_zzZone.f (k : Nat) (a0 : ByteArray) : Option (Int × Bool) := if a0.toList = ([90] : List UInt8) then (some (0, true)) else (if (a0.size : Int) = 5 then (if 0 < (a0.size : Int) then (if (bt a0 0) = 43 then (asn1_zzZone.j0 k a0 false) else (asn1_zzZone.j0 k a0 ((bt a0 0) != 45))) else (none)) else (asn1_zzZone.j0 k a0 true))
theorem asn1_zzZone.mono_l : ∀ k, (∀ y0 y1, LeO (asn1_zzZone.j0 k y0 y1) (asn1_zzZone.j0 (k + 1) y0 y1)) ∧ (∀ y0 y1 y2, LeO (asn1_zzZone.j1 k y0 y1 y2) (asn1_zzZone.j1 (k + 1) y0 y1 y2))
  | 0 => ⟨fun _ _ r h => by simp [asn1_zzZone.j0] at h, fun _ _ _ r h => by simp [asn1_zzZone.j1] at h⟩
  | k + 1 => by
    obtain ⟨ih0, ih1⟩ := asn1_zzZone.mono_l k
    refine ⟨?_, ?_⟩
    · intro y0 y1
      unfold asn1_zzZone.j0
      repeat' first
      | (with_reducible exact ih0 _ _)
      | (with_reducible exact ih1 _ _ _)
      | (with_reducible exact asn1_zzDigits.mono _ _ _)
      | (with_reducible exact LeO.refl _)
      | (with_reducible exact LeO.none _)
      | (with_reducible refine LeO.ite ?_ ?_)
      | (with_reducible refine LeO.bind ?_ (fun _ => ?_))
      | exact ih0 _ _
      | exact ih1 _ _ _
      | exact asn1_zzDigits.mono _ _ _
      | exact LeO.none _
      | refine LeO.ite ?_ ?_
      | refine LeO.bind ?_ (fun _ => ?_)
    · intro y0 y1 y2
      unfold asn1_zzZone.j1
      repeat' first
      | (with_reducible exact ih0 _ _)
      | (with_reducible exact ih1 _ _ _)
      | (with_reducible exact asn1_zzDigits.mono _ _ _)
      | (with_reducible exact LeO.refl _)
      | (with_reducible exact LeO.none _)
      | (with_reducible refine LeO.ite ?_ ?_)
      | (with_reducible refine LeO.bind ?_ (fun _ => ?_))
      | exact ih0 _ _
      | exact ih1 _ _ _
      | exact asn1_zzDigits.mono _ _ _
      | exact LeO.none _
      | refine LeO.ite ?_ ?_
      | refine LeO.bind ?_ (fun _ => ?_)
theorem asn1_zzZone.mono : ∀ a0 k, LeO (asn1_zzZone.f k a0) (asn1_zzZone.f (k + 1) a0) := by
  intro a0 k
  obtain ⟨ih0, ih1⟩ := asn1_zzZone.mono_l k
  unfold asn1_zzZone.f
  repeat' first
      | (with_reducible exact ih0 _ _)
      | (with_reducible exact ih1 _ _ _)
      | (with_reducible exact asn1_zzDigits.mono _ _ _)
      | (with_reducible exact LeO.refl _)
      | (with_reducible exact LeO.none _)
      | (with_reducible refine LeO.ite ?_ ?_)
      | (with_reducible refine LeO.bind ?_ (fun _ => ?_))
      | exact ih0 _ _
      | exact ih1 _ _ _
      | exact asn1_zzDigits.mono _ _ _
      | exact LeO.none _
      | refine LeO.ite ?_ ?_
      | refine LeO.bind ?_ (fun _ => ?_)
set_option maxHeartbeats 8000000 in
set_option maxRecDepth 100000 in
theorem asn1_zzZone.calls (k : Nat) (a0 : ByteArray) (r1 : Int) (r2 : Bool) (w : World) (h : asn1_zzZone.f k a0 = some (r1, r2)) :
    Calls Try.prog 100 #[.string a0] w fun e w' => e = .returned (.tuple #[.int .i64 r1, .bool r2]) ∧ Drawn0 w w' := by
  have H : (if a0.toList = ([90] : List UInt8) then (some (0, true)) else (if (a0.size : Int) = 5 then (if 0 < (a0.size : Int) then (if (bt a0 0) = 43 then (asn1_zzZone.j0 k a0 false) else (asn1_zzZone.j0 k a0 ((bt a0 0) != 45))) else (none)) else (asn1_zzZone.j0 k a0 true))) = some (r1, r2) := h
  clear h
  by_cases c2 : a0.toList = ([90] : List UInt8)
  · rw [if_pos c2] at H
    have c2b0 : (a0.toList == ([90] : List UInt8)) = true := beq_iff_eq.mpr c2
    have c2b1 : (a0.toList != ([90] : List UInt8)) = false := bne_eq_false_iff_eq.mpr c2
    clear c2
    simp only [Option.some.injEq, Prod.mk.injEq] at H
    obtain ⟨rfl, rfl⟩ := H
    go_enter Try.func100, Try.ntmps100
    go_wp2
    go_ret2
    exact ⟨by first | rfl | (simp; done) | (simp [*]; done), by repeat (first | exact Drawn0.refl _ | apply Drawn0.step)⟩
  · rw [if_neg c2] at H
    have c2b0 : (a0.toList == ([90] : List UInt8)) = false := beq_eq_false_iff_ne.mpr c2
    have c2b1 : (a0.toList != ([90] : List UInt8)) = true := bne_iff_ne.mpr c2
    have HC3 := Aside0.mk H
    clear H
    go_enter Try.func100, Try.ntmps100
    go_upto_region 3 with (fail)
    go_cut [25] (fun v25 wc => ∃ (kq : Nat) (x25_2 : Bool), v25 = .bool x25_2 ∧ Aside0 (asn1_zzZone.j0 kq a0 x25_2 = some (r1, r2)) ∧ Aside0 (kq ≤ k) ∧ Drawn0 w wc)
    case first =>
      have H := HC3.out
      clear HC3
      by_cases c4 : (a0.size : Int) = 5
      · rw [if_pos c4] at H
        have c4b0 : ((a0.size : Int) == 5) = true := beq_iff_eq.mpr c4
        have c4b1 : ((a0.size : Int) != 5) = false := bne_eq_false_iff_eq.mpr c4
        clear c4
        (first | rw [c4b0] | (simp only [i64_w, i32_w]; rw [c4b0]) | skip)
        by_cases c5 : 0 < (a0.size : Int)
        · rw [if_pos c5] at H
          have c5b0 : decide (0 < (a0.size : Int)) = true := decide_eq_true c5
          have c5b1 : decide (0 < a0.size) = true := decide_eq_true (by omega)
          clear c5
          by_cases c7 : (bt a0 0) = 43
          · rw [if_pos c7] at H
            have c7b0 : ((bt a0 0) == 43) = true := beq_iff_eq.mpr c7
            have c7b1 : ((bt a0 0) != 43) = false := bne_eq_false_iff_eq.mpr c7
            clear c7
            have H' := Aside0.mk H
            clear H
            have p6 : 0 ≤ (0 : Int) := (by omega)
            have q6 : 0 < a0.size := (by have : (0 : Int) < (a0.size : Int) := of_decide_eq_true (by first | (with_reducible assumption) | assumption); omega)
            have hx6 : ∀ h : 0 < a0.size, ((a0[0]'h).toNat : Int) = bt a0 0 := bt_at a0 0
            clear p6
            have qi6 : (0 < (a0.size : Int)) = True := eq_true (of_decide_eq_true (by first | (with_reducible assumption) | assumption))
            replace q6 := eq_true q6
            go_wp2
            go_meet
            case rel => exact ⟨_, (false), (by first | rfl | (simp; done) | (simp [*]; done)), H', ⟨by first | omega | exact Nat.le_refl _⟩, by repeat (first | exact Drawn0.refl _ | apply Drawn0.step)⟩
          · rw [if_neg c7] at H
            have c7b0 : ((bt a0 0) == 43) = false := beq_eq_false_iff_ne.mpr c7
            have c7b1 : ((bt a0 0) != 43) = true := bne_iff_ne.mpr c7
            have H' := Aside0.mk H
            clear H
            have p6 : 0 ≤ (0 : Int) := (by omega)
            have q6 : 0 < a0.size := (by have : (0 : Int) < (a0.size : Int) := of_decide_eq_true (by first | (with_reducible assumption) | assumption); omega)
            have hx6 : ∀ h : 0 < a0.size, ((a0[0]'h).toNat : Int) = bt a0 0 := bt_at a0 0
            clear p6
            have qi6 : (0 < (a0.size : Int)) = True := eq_true (of_decide_eq_true (by first | (with_reducible assumption) | assumption))
            replace q6 := eq_true q6
            have p8 : 0 ≤ (0 : Int) := (by omega)
            have q8 : 0 < a0.size := (by have : (0 : Int) < (a0.size : Int) := of_decide_eq_true (by first | (with_reducible assumption) | assumption); omega)
            have hx8 : ∀ h : 0 < a0.size, ((a0[0]'h).toNat : Int) = bt a0 0 := bt_at a0 0
            clear p8
            have qi8 : (0 < (a0.size : Int)) = True := eq_true (of_decide_eq_true (by first | (with_reducible assumption) | assumption))
            replace q8 := eq_true q8
            go_wp2
            go_meet
            case rel => exact ⟨_, (((bt a0 0) != 45)), (by first | rfl | (simp; done) | (simp [*]; done)), H', ⟨by first | omega | exact Nat.le_refl _⟩, by repeat (first | exact Drawn0.refl _ | apply Drawn0.step)⟩
        · rw [if_neg c5] at H
          exact absurd H (by simp)
      · rw [if_neg c4] at H
        have c4b0 : ((a0.size : Int) == 5) = false := beq_eq_false_iff_ne.mpr c4
        have c4b1 : ((a0.size : Int) != 5) = true := bne_iff_ne.mpr c4
        (first | rw [c4b0] | (simp only [i64_w, i32_w]; rw [c4b0]) | skip)
        have H' := Aside0.mk H
        clear H
        go_wp2
        go_meet
        case rel => exact ⟨_, (true), (by first | rfl | (simp; done) | (simp [*]; done)), H', ⟨by first | omega | exact Nat.le_refl _⟩, by repeat (first | exact Drawn0.refl _ | apply Drawn0.step)⟩
    case rest =>
      clear HC3
      try clear c1
      try clear c2
      try clear c2b0
      try clear c2b1
      try clear p2
      try clear c4
      try clear c4b0
      try clear c4b1
      try clear c5
      try clear c5b0
      try clear c5b1
      try clear p6
      try clear q6
      try clear hx6
      try clear qi6
      try clear c7
      try clear c7b0
      try clear c7b1
      try clear p8
      try clear q8
      try clear hx8
      try clear qi8
      try clear p6
      try clear p8
      try clear q6
      try clear q8
      obtain ⟨kq, x25_2, rfl, HA, HJ2, ⟨mc2, rfl⟩⟩ := hcut
      cases kq with
      | zero => exact absurd HA.out (by simp [asn1_zzZone.j0])
      | succ kj2 =>
        have H := HA.out
        clear HA
        simp only [asn1_zzZone.j0] at H
        by_cases c9 : x25_2 = true
        · subst c9
          have H1 : (some (0, false)) = some (r1, r2) := by rw [if_pos rfl] at H; exact H
          clear H
          have H := H1
          clear H1
          simp only [Option.some.injEq, Prod.mk.injEq] at H
          obtain ⟨rfl, rfl⟩ := H
          go_wp2
          go_ret2
          exact ⟨by first | rfl | (simp; done) | (simp [*]; done), by repeat (first | exact Drawn0.refl _ | apply Drawn0.step)⟩
        · replace c9 := Bool.eq_false_iff.mpr c9
          subst c9
          have H1 : (if 1 ≤ (a0.size : Int) then ((asn1_zzDigits.f kj2 (a0.extract 1 a0.size) 2).bind fun bt107 => ((asn1_zzDigits.f kj2 bt107.2.1 2).bind fun bt110 => (if bt107.2.2 = true then (if bt110.2.2 = true then (if bt107.1 > 24 then (asn1_zzZone.j1 kj2 a0 (wrap64 ((wrap64 (bt107.1 * 60)) + bt110.1)) true) else (if bt110.1 > 59 then (asn1_zzZone.j1 kj2 a0 (wrap64 ((wrap64 (bt107.1 * 60)) + bt110.1)) true) else (asn1_zzZone.j1 kj2 a0 (wrap64 ((wrap64 (bt107.1 * 60)) + bt110.1)) ((wrap64 ((wrap64 (bt107.1 * 60)) + bt110.1)) == 0)))) else (asn1_zzZone.j1 kj2 a0 (wrap64 ((wrap64 (bt107.1 * 60)) + bt110.1)) true)) else (asn1_zzZone.j1 kj2 a0 (wrap64 ((wrap64 (bt107.1 * 60)) + bt110.1)) true)))) else (none)) = some (r1, r2) := by rw [if_neg (show ¬ (false = true) by decide)] at H; exact H
          clear H
          have H := H1
          clear H1
          by_cases c10 : 1 ≤ (a0.size : Int)
          · rw [if_pos c10] at H
            have c10b0 := eq_true c10
            have c10b1 : decide (1 ≤ (a0.size : Int)) = true := decide_eq_true c10
            clear c10
            replace H := Option.bind_eq_some_iff.mp H
            obtain ⟨⟨t107, t108, t109⟩, A110, H⟩ := H
            replace H : ((asn1_zzDigits.f kj2 t108 2).bind fun bt110 => (if t109 = true then (if bt110.2.2 = true then (if t107 > 24 then (asn1_zzZone.j1 kj2 a0 (wrap64 ((wrap64 (t107 * 60)) + bt110.1)) true) else (if bt110.1 > 59 then (asn1_zzZone.j1 kj2 a0 (wrap64 ((wrap64 (t107 * 60)) + bt110.1)) true) else (asn1_zzZone.j1 kj2 a0 (wrap64 ((wrap64 (t107 * 60)) + bt110.1)) ((wrap64 ((wrap64 (t107 * 60)) + bt110.1)) == 0)))) else (asn1_zzZone.j1 kj2 a0 (wrap64 ((wrap64 (t107 * 60)) + bt110.1)) true)) else (asn1_zzZone.j1 kj2 a0 (wrap64 ((wrap64 (t107 * 60)) + bt110.1)) true))) = some (r1, r2) := H
            have A11 := Aside0.mk A110
            clear A110
            replace H := Option.bind_eq_some_iff.mp H
            obtain ⟨⟨t110, t111, t112⟩, A120, H⟩ := H
            replace H : (if t109 = true then (if t112 = true then (if t107 > 24 then (asn1_zzZone.j1 kj2 a0 (wrap64 ((wrap64 (t107 * 60)) + t110)) true) else (if t110 > 59 then (asn1_zzZone.j1 kj2 a0 (wrap64 ((wrap64 (t107 * 60)) + t110)) true) else (asn1_zzZone.j1 kj2 a0 (wrap64 ((wrap64 (t107 * 60)) + t110)) ((wrap64 ((wrap64 (t107 * 60)) + t110)) == 0)))) else (asn1_zzZone.j1 kj2 a0 (wrap64 ((wrap64 (t107 * 60)) + t110)) true)) else (asn1_zzZone.j1 kj2 a0 (wrap64 ((wrap64 (t107 * 60)) + t110)) true)) = some (r1, r2) := H
            have A12 := Aside0.mk A120
            clear A120
            have HC13 := Aside0.mk H
            clear H
            go_upto_region 8 with (first | ((with_reducible refine gate_callee (f := 98) rfl ?_); refine goesL_ (some 29) rfl rfl Try.func98 (by kernel_rfl) rfl #[.string (a0.extract 1 a0.size), .int .i64 2] rfl (by (try simp only [List.map_toArray, List.map_cons, List.map_nil]); first | done | rfl | (simp only [List.length_drop, List.length_take]; rfl)) ?_; (with_reducible refine (asn1_zzDigits.calls kj2 (a0.extract 1 a0.size) 2 t107 t108 t109 _ A11.out).mono ?_); rintro e w' ⟨rfl, ⟨nd, rfl⟩⟩; refine ⟨_, rfl, ?_⟩) | ((with_reducible refine gate_callee (f := 98) rfl ?_); refine goesL_ (some 35) rfl rfl Try.func98 (by kernel_rfl) rfl #[.string t108, .int .i64 2] rfl (by (try simp only [List.map_toArray, List.map_cons, List.map_nil]); first | done | rfl | (simp only [List.length_drop, List.length_take]; rfl)) ?_; (with_reducible refine (asn1_zzDigits.calls kj2 t108 2 t110 t111 t112 _ A12.out).mono ?_); rintro e w' ⟨rfl, ⟨nd, rfl⟩⟩; refine ⟨_, rfl, ?_⟩))
            (try simp only [Act.put, List.setIfInBounds_toArray, List.set_cons_zero, List.set_cons_succ])
            go_cut [60] (fun v60 wc => ∃ (kq : Nat) (x60_12 : Bool), v60 = .bool x60_12 ∧ Aside0 (asn1_zzZone.j1 kq a0 (wrap64 ((wrap64 (t107 * 60)) + t110)) x60_12 = some (r1, r2)) ∧ Aside0 (kq ≤ kj2) ∧ Drawn0 w wc)
            case first =>
              have H := HC13.out
              clear HC13
              by_cases c14 : t109 = true
              · subst c14
                have H1 : (if t112 = true then (if t107 > 24 then (asn1_zzZone.j1 kj2 a0 (wrap64 ((wrap64 (t107 * 60)) + t110)) true) else (if t110 > 59 then (asn1_zzZone.j1 kj2 a0 (wrap64 ((wrap64 (t107 * 60)) + t110)) true) else (asn1_zzZone.j1 kj2 a0 (wrap64 ((wrap64 (t107 * 60)) + t110)) ((wrap64 ((wrap64 (t107 * 60)) + t110)) == 0)))) else (asn1_zzZone.j1 kj2 a0 (wrap64 ((wrap64 (t107 * 60)) + t110)) true)) = some (r1, r2) := by rw [if_pos rfl] at H; exact H
                clear H
                have H := H1
                clear H1
                by_cases c15 : t112 = true
                · subst c15
                  have H1 : (if t107 > 24 then (asn1_zzZone.j1 kj2 a0 (wrap64 ((wrap64 (t107 * 60)) + t110)) true) else (if t110 > 59 then (asn1_zzZone.j1 kj2 a0 (wrap64 ((wrap64 (t107 * 60)) + t110)) true) else (asn1_zzZone.j1 kj2 a0 (wrap64 ((wrap64 (t107 * 60)) + t110)) ((wrap64 ((wrap64 (t107 * 60)) + t110)) == 0)))) = some (r1, r2) := by rw [if_pos rfl] at H; exact H
                  clear H
                  have H := H1
                  clear H1
                  by_cases c16 : t107 > 24
                  · rw [if_pos c16] at H
                    have c16b0 : decide (24 < t107) = true := decide_eq_true c16
                    clear c16
                    (first | rw [c16b0] | (simp only [i64_w, i32_w]; rw [c16b0]) | skip)
                    have H' := Aside0.mk H
                    clear H
                    go_wp2
                    go_meet
                    case rel => exact ⟨_, (true), (by first | rfl | (simp; done) | (simp [*]; done)), H', ⟨by have := HJ2.out; first | omega | exact Nat.le_refl _⟩, by repeat (first | exact Drawn0.refl _ | apply Drawn0.step)⟩
                  · rw [if_neg c16] at H
                    have c16b0 : decide (24 < t107) = false := decide_eq_false c16
                    clear c16
                    (first | rw [c16b0] | (simp only [i64_w, i32_w]; rw [c16b0]) | skip)
                    by_cases c17 : t110 > 59
                    · rw [if_pos c17] at H
                      have c17b0 : decide (59 < t110) = true := decide_eq_true c17
                      clear c17
                      have H' := Aside0.mk H
                      clear H
                      go_wp2
                      go_meet
                      case rel => exact ⟨_, (true), (by first | rfl | (simp; done) | (simp [*]; done)), H', ⟨by have := HJ2.out; first | omega | exact Nat.le_refl _⟩, by repeat (first | exact Drawn0.refl _ | apply Drawn0.step)⟩
                    · rw [if_neg c17] at H
                      have c17b0 : decide (59 < t110) = false := decide_eq_false c17
                      clear c17
                      have H' := Aside0.mk H
                      clear H
                      go_wp2
                      go_meet
                      case rel => exact ⟨_, (((wrap64 ((wrap64 (t107 * 60)) + t110)) == 0)), (by first | rfl | (simp; done) | (simp [*]; done)), H', ⟨by have := HJ2.out; first | omega | exact Nat.le_refl _⟩, by repeat (first | exact Drawn0.refl _ | apply Drawn0.step)⟩
                · replace c15 := Bool.eq_false_iff.mpr c15
                  subst c15
                  have H1 : (asn1_zzZone.j1 kj2 a0 (wrap64 ((wrap64 (t107 * 60)) + t110)) true) = some (r1, r2) := by rw [if_neg (show ¬ (false = true) by decide)] at H; exact H
                  clear H
                  have H := H1
                  clear H1
                  have H' := Aside0.mk H
                  clear H
                  go_wp2
                  go_meet
                  case rel => exact ⟨_, (true), (by first | rfl | (simp; done) | (simp [*]; done)), H', ⟨by have := HJ2.out; first | omega | exact Nat.le_refl _⟩, by repeat (first | exact Drawn0.refl _ | apply Drawn0.step)⟩
              · replace c14 := Bool.eq_false_iff.mpr c14
                subst c14
                have H1 : (asn1_zzZone.j1 kj2 a0 (wrap64 ((wrap64 (t107 * 60)) + t110)) true) = some (r1, r2) := by rw [if_neg (show ¬ (false = true) by decide)] at H; exact H
                clear H
                have H := H1
                clear H1
                have H' := Aside0.mk H
                clear H
                go_wp2
                go_meet
                case rel => exact ⟨_, (true), (by first | rfl | (simp; done) | (simp [*]; done)), H', ⟨by have := HJ2.out; first | omega | exact Nat.le_refl _⟩, by repeat (first | exact Drawn0.refl _ | apply Drawn0.step)⟩
            case rest =>
              clear HC13
              try clear c1
              try clear c2
              try clear c2b0
              try clear c2b1
              try clear p2
              try clear c4
              try clear c4b0
              try clear c4b1
              try clear c5
              try clear c5b0
              try clear c5b1
              try clear p6
              try clear q6
              try clear hx6
              try clear qi6
              try clear c7
              try clear c7b0
              try clear c7b1
              try clear p8
              try clear q8
              try clear hx8
              try clear qi8
              try clear c9
              try clear c10
              try clear c10b0
              try clear c10b1
              try clear c14
              try clear c15
              try clear c16
              try clear c16b0
              try clear c17
              try clear c17b0
              try clear p2
              try clear p6
              try clear p8
              try clear q6
              try clear q8
              obtain ⟨kq, x60_12, rfl, HA, HJ12, ⟨mc12, rfl⟩⟩ := hcut
              cases kq with
              | zero => exact absurd HA.out (by simp [asn1_zzZone.j1])
              | succ kj12 =>
                have H := HA.out
                clear HA
                simp only [asn1_zzZone.j1] at H
                by_cases c18 : x60_12 = true
                · subst c18
                  have H1 : (some (0, false)) = some (r1, r2) := by rw [if_pos rfl] at H; exact H
                  clear H
                  have H := H1
                  clear H1
                  simp only [Option.some.injEq, Prod.mk.injEq] at H
                  obtain ⟨rfl, rfl⟩ := H
                  go_wp2
                  go_ret2
                  exact ⟨by first | rfl | (simp; done) | (simp [*]; done), by repeat (first | exact Drawn0.refl _ | apply Drawn0.step)⟩
                · replace c18 := Bool.eq_false_iff.mpr c18
                  subst c18
                  have H1 : (if 0 < (a0.size : Int) then (if (bt a0 0) = 45 then (some (wrap64 (-(wrap64 ((wrap64 (t107 * 60)) + t110))), true)) else (some ((wrap64 ((wrap64 (t107 * 60)) + t110)), true))) else (none)) = some (r1, r2) := by rw [if_neg (show ¬ (false = true) by decide)] at H; exact H
                  clear H
                  have H := H1
                  clear H1
                  by_cases c19 : 0 < (a0.size : Int)
                  · rw [if_pos c19] at H
                    have c19b0 : decide (0 < (a0.size : Int)) = true := decide_eq_true c19
                    have c19b1 : decide (0 < a0.size) = true := decide_eq_true (by omega)
                    clear c19
                    by_cases c21 : (bt a0 0) = 45
                    · rw [if_pos c21] at H
                      have c21b0 : ((bt a0 0) == 45) = true := beq_iff_eq.mpr c21
                      have c21b1 : ((bt a0 0) != 45) = false := bne_eq_false_iff_eq.mpr c21
                      clear c21
                      simp only [Option.some.injEq, Prod.mk.injEq] at H
                      obtain ⟨rfl, rfl⟩ := H
                      have p20 : 0 ≤ (0 : Int) := (by omega)
                      have q20 : 0 < a0.size := (by have : (0 : Int) < (a0.size : Int) := of_decide_eq_true (by first | (with_reducible assumption) | assumption); omega)
                      have hx20 : ∀ h : 0 < a0.size, ((a0[0]'h).toNat : Int) = bt a0 0 := bt_at a0 0
                      clear p20
                      have qi20 : (0 < (a0.size : Int)) = True := eq_true (of_decide_eq_true (by first | (with_reducible assumption) | assumption))
                      replace q20 := eq_true q20
                      go_wp2
                      go_ret2
                      exact ⟨by first | rfl | (simp; done) | (simp [*]; done), by repeat (first | exact Drawn0.refl _ | apply Drawn0.step)⟩
                    · rw [if_neg c21] at H
                      have c21b0 : ((bt a0 0) == 45) = false := beq_eq_false_iff_ne.mpr c21
                      have c21b1 : ((bt a0 0) != 45) = true := bne_iff_ne.mpr c21
                      simp only [Option.some.injEq, Prod.mk.injEq] at H
                      obtain ⟨rfl, rfl⟩ := H
                      have p20 : 0 ≤ (0 : Int) := (by omega)
                      have q20 : 0 < a0.size := (by have : (0 : Int) < (a0.size : Int) := of_decide_eq_true (by first | (with_reducible assumption) | assumption); omega)
                      have hx20 : ∀ h : 0 < a0.size, ((a0[0]'h).toNat : Int) = bt a0 0 := bt_at a0 0
                      clear p20
                      have qi20 : (0 < (a0.size : Int)) = True := eq_true (of_decide_eq_true (by first | (with_reducible assumption) | assumption))
                      replace q20 := eq_true q20
                      go_wp2
                      go_ret2
                      exact ⟨by first | rfl | (simp; done) | (simp [*]; done), by repeat (first | exact Drawn0.refl _ | apply Drawn0.step)⟩
                  · rw [if_neg c19] at H
                    exact absurd H (by simp)
          · rw [if_neg c10] at H
            exact absurd H (by simp)

section
open Go.BigFrame
set_option linter.unusedSimpArgs false
def zN (s : ByteArray) : Int := dv2 (s.extract 1 s.size) * 60 + dv2 (dr2 (s.extract 1 s.size))
def zO (s : ByteArray) : Bool := s.toList == ([90] : List UInt8) || (decide (s.size = 5) && (bt s 0 == 43 || bt s 0 == 45) && dg2 (s.extract 1 s.size) && dg2 (dr2 (s.extract 1 s.size)) && decide (dv2 (s.extract 1 s.size) ≤ 24) && decide (dv2 (dr2 (s.extract 1 s.size)) ≤ 59) && !(zN s == 0))
def zV (s : ByteArray) : Int := if s.toList = ([90] : List UInt8) then 0 else if zO s = true then (if bt s 0 = 45 then -(zN s) else zN s) else 0
theorem zone_j1 (k : Nat) (s : ByteArray) (n : Int) (b : Bool) (hs : 0 < (s.size : Int)) (hn : 0 ≤ n ∧ n ≤ 100000) : asn1_zzZone.j1 (k + 1) s n b = some (if b = true then (0, false) else ((if bt s 0 = 45 then -n else n), true)) := by
  cases b with
  | true => rfl
  | false =>
    simp only [asn1_zzZone.j1]
    rw [if_neg (show ¬ (false = true) by decide), if_pos hs]
    by_cases h : bt s 0 = 45
    · rw [if_pos h]
      simp only [h, if_true]
      rw [show wrap64 (-n) = -n by unfold wrap64; omega]
      rfl
    · rw [if_neg h]
      simp [h]
theorem zone_j1t (k : Nat) (s : ByteArray) (n : Int) : asn1_zzZone.j1 (k + 1) s n true = some (0, false) := by
  unfold asn1_zzZone.j1
  rfl
theorem zone2_eq (s : ByteArray) : asn1_zzZone.f 9 s = some (zV s, zO s) := by
  unfold asn1_zzZone.f zV
  by_cases hz : s.toList = ([90] : List UInt8)
  · rw [if_pos hz, if_pos hz]
    simp [zO, hz]
  rw [if_neg hz, if_neg hz]
  have hz' : (s.toList == ([90] : List UInt8)) = false := by simpa using hz
  by_cases h5 : s.size = 5
  · rw [if_pos (by omega), if_pos (by omega)]
    have hj : ∀ b : Bool, asn1_zzZone.j0 9 s b = some (if b = false ∧ dg2 (s.extract 1 s.size) = true ∧ dg2 (dr2 (s.extract 1 s.size)) = true ∧ dv2 (s.extract 1 s.size) ≤ 24 ∧ dv2 (dr2 (s.extract 1 s.size)) ≤ 59 ∧ zN s ≠ 0 then ((if bt s 0 = 45 then -(zN s) else zN s), true) else (0, false)) := by
      intro b
      show asn1_zzZone.j0 (8 + 1) s b = _
      simp only [asn1_zzZone.j0]
      cases b with
      | true => simp
      | false =>
        rw [if_neg (show ¬ (false = true) by decide), if_pos (show 1 ≤ (s.size : Int) by omega)]
        cases g1 : dg2 (s.extract 1 s.size) with
        | false =>
          rw [digits2_no 5 g1]
          simp only [Option.bind_some]
          rw [digits2_no 5 g1]
          simp only [Option.bind_some]
          rw [if_neg (show ¬ (false = true) by decide), zone_j1t]
          simp
        | true =>
          have r1 := dv2_range g1
          rw [digits2_yes 5 g1]
          simp only [Option.bind_some]
          cases g2 : dg2 (dr2 (s.extract 1 s.size)) with
          | false =>
            rw [digits2_no 5 g2]
            simp only [Option.bind_some]
            rw [if_pos trivial, if_neg (show ¬ (false = true) by decide), zone_j1t]
            simp
          | true =>
            have r2 := dv2_range g2
            rw [digits2_yes 5 g2]
            simp only [Option.bind_some]
            rw [if_pos trivial, if_pos trivial]
            rw [show wrap64 (wrap64 (dv2 (s.extract 1 s.size) * 60) + dv2 (dr2 (s.extract 1 s.size))) = zN s by unfold zN wrap64; omega]
            by_cases c1 : dv2 (s.extract 1 s.size) > 24
            · rw [if_pos c1, zone_j1t, if_neg (by intro h; omega)]
            · rw [if_neg c1]
              by_cases c2 : dv2 (dr2 (s.extract 1 s.size)) > 59
              · rw [if_pos c2, zone_j1t, if_neg (by intro h; omega)]
              · rw [if_neg c2, zone_j1 _ _ _ _ (by omega) (by unfold zN; omega)]
                by_cases c3 : zN s = 0
                · simp [c3]
                · rw [if_neg (show ¬ ((zN s == 0) = true) by simpa using c3), if_pos (show True ∧ True ∧ True ∧ dv2 (s.extract 1 s.size) ≤ 24 ∧ dv2 (dr2 (s.extract 1 s.size)) ≤ 59 ∧ zN s ≠ 0 from ⟨trivial, trivial, trivial, by omega, by omega, c3⟩)]
    by_cases h43 : bt s 0 = 43
    · rw [if_pos h43, hj]
      by_cases hc : dg2 (s.extract 1 s.size) = true ∧ dg2 (dr2 (s.extract 1 s.size)) = true ∧ dv2 (s.extract 1 s.size) ≤ 24 ∧ dv2 (dr2 (s.extract 1 s.size)) ≤ 59 ∧ zN s ≠ 0
      · obtain ⟨a1, a2, a3, a4, a5⟩ := hc
        have ho : zO s = true := by simp [zO, hz', h5, h43]; rw [h5] at a1 a2 a3 a4; simp [a1, a2, a3, a4, a5]
        rw [if_pos ⟨rfl, a1, a2, a3, a4, a5⟩, ho]
        rfl
      · have ho : zO s = false := by
          cases hh : zO s with
          | false => rfl
          | true =>
            exfalso
            apply hc
            simp only [zO, hz', Bool.false_or, Bool.and_eq_true, decide_eq_true_eq, Bool.not_eq_true', beq_eq_false_iff_ne] at hh
            exact ⟨hh.1.1.1.1.2, hh.1.1.1.2, hh.1.1.2, hh.1.2, hh.2⟩
        rw [if_neg (fun h => hc h.2), ho]
        rfl
    · rw [if_neg h43, hj]
      by_cases h45 : bt s 0 = 45
      · by_cases hc : dg2 (s.extract 1 s.size) = true ∧ dg2 (dr2 (s.extract 1 s.size)) = true ∧ dv2 (s.extract 1 s.size) ≤ 24 ∧ dv2 (dr2 (s.extract 1 s.size)) ≤ 59 ∧ zN s ≠ 0
        · obtain ⟨a1, a2, a3, a4, a5⟩ := hc
          have ho : zO s = true := by simp [zO, hz', h5, h45]; rw [h5] at a1 a2 a3 a4; simp [a1, a2, a3, a4, a5]
          rw [if_pos ⟨by simp [h45], a1, a2, a3, a4, a5⟩, ho]
          rfl
        · have ho : zO s = false := by
            cases hh : zO s with
            | false => rfl
            | true =>
              exfalso
              apply hc
              simp only [zO, hz', Bool.false_or, Bool.and_eq_true, decide_eq_true_eq, Bool.not_eq_true', beq_eq_false_iff_ne] at hh
              exact ⟨hh.1.1.1.1.2, hh.1.1.1.2, hh.1.1.2, hh.1.2, hh.2⟩
          rw [if_neg (fun h => hc h.2), ho]
          rfl
      · have ho : zO s = false := by simp [zO, hz', h43, h45]
        rw [if_neg (by simp [h45]), ho]
        rfl
  · rw [if_neg (by omega)]
    have ho : zO s = false := by simp [zO, hz', h5]
    rw [ho]
    unfold asn1_zzZone.j0
    rfl
theorem zone2_any (s : ByteArray) (w : World) : Calls Try.prog 100 #[.string s] w fun e w' => e = .returned (.tuple #[.int .i64 (zV s), .bool (zO s)]) ∧ Drawn0 w w' := asn1_zzZone.calls 9 s _ _ w (zone2_eq s)
end

end Go.Proofs.Ytmiemfgcggkbnaa.QP2
