/- The law FnReadGeneralized walked, from what its two functions answer. -/
import Derived.Test.YtmiemfgcggkbnaaQGx1
import Derived.Test.YtmiemfgcggkbnaaQGx3
import Derived.Test.YtmiemfgcggkbnaaQGx7
import Derived.Lib.SlBytesConst
namespace Go.Proofs.Ytmiemfgcggkbnaa.QG
open Go.BigFrame
open Go.RowKit Go.Proofs.YtmiemfgcggkbnaaW.PrintWords Go.Proofs.YtmiemfgcggkbnaaW.PrintLast Go.Proofs.YtmiemfgcggkbnaaW.PrintMore
set_option linter.unusedVariables false
set_option linter.unusedSimpArgs false
theorem eqA47 (d : Nat) (w : World) (x0 y0 : Int) (x1 y1 : Int) (x2 y2 : Int) (x3 y3 : Int) (x4 y4 : Int) (x5 y5 : Int) (x6 y6 : Int) (x7 y7 : Int) :
    (Op.equalIn (d + 2) 47 (.agg #[.int .i64 x0, .int .i64 x1, .int .i64 x2, .int .i64 x3, .int .i64 x4, .int .i64 x5, .int .i64 x6, .int .i64 x7]) (.agg #[.int .i64 y0, .int .i64 y1, .int .i64 y2, .int .i64 y3, .int .i64 y4, .int .i64 y5, .int .i64 y6, .int .i64 y7])).run Try.prog w = .ok (x0 == y0 && (x1 == y1 && (x2 == y2 && (x3 == y3 && (x4 == y4 && (x5 == y5 && (x6 == y6 && (x7 == y7)))))))) w := by
  refine eqA_of Try.underlying47 (by kernel_rfl) ?_
  refine eqf_cons (by rfl) (by go_simp; rfl) (by go_simp; rfl) (by go_simp) ?_
  refine eqf_cons (by rfl) (by go_simp; rfl) (by go_simp; rfl) (by go_simp) ?_
  refine eqf_cons (by rfl) (by go_simp; rfl) (by go_simp; rfl) (by go_simp) ?_
  refine eqf_cons (by rfl) (by go_simp; rfl) (by go_simp; rfl) (by go_simp) ?_
  refine eqf_cons (by rfl) (by go_simp; rfl) (by go_simp; rfl) (by go_simp) ?_
  refine eqf_cons (by rfl) (by go_simp; rfl) (by go_simp; rfl) (by go_simp) ?_
  refine eqf_cons (by rfl) (by go_simp; rfl) (by go_simp; rfl) (by go_simp) ?_
  exact eqf_last (by rfl) (by go_simp; rfl) (by go_simp; rfl) (by go_simp)
attribute [local go_sem high] eqA47
theorem C_const (W : World) (xs : List Int) (fr : Nat × Nat) (hx : xs.length ≤ 1000) : Kd.C (Kd.int .u8) (W.alloc (.cells (xs.map (Value.int .u8)).toArray 5 fr)) (some ⟨W.heap.size, 0, none⟩) xs.length xs := by
  refine Kd.C_of_reads (enc := Value.int .u8) (d := (0 : Int)) (h1 := fun _ => rfl) ⟨rfl, by omega, fun _ => ⟨_, rfl, fun j hj => ?_⟩⟩
  rw [add_plain, cell_of_row _ W.heap.size j _ 5 fr (heap_alloc_new W _)]
  simp [List.getElem?_eq_getElem hj, List.getD_eq_getElem?_getD]
theorem Gen_const (W : World) (hc : impl_ReadGeneralized.f [49, 57, 57, 49, 48, 53, 48, 54, 50, 51, 52, 53, 52, 48, 90] = some (1991, 5, 6, 23, 45, 40, 0, 0, true)) : Calls Try.prog 29 #[.slice (some ⟨W.heap.size, 0, none⟩) 15 15] (W.alloc (.cells #[.int .u8 49, .int .u8 57, .int .u8 57, .int .u8 49, .int .u8 48, .int .u8 53, .int .u8 48, .int .u8 54, .int .u8 50, .int .u8 51, .int .u8 52, .int .u8 53, .int .u8 52, .int .u8 48, .int .u8 90] 5 (15, 16))) fun e w' => e = .returned (.tuple #[.agg #[.int .i64 1991, .int .i64 5, .int .i64 6, .int .i64 23, .int .i64 45, .int .i64 40, .int .i64 0, .int .i64 0], .bool true]) ∧ Below (W.alloc (.cells #[.int .u8 49, .int .u8 57, .int .u8 57, .int .u8 49, .int .u8 48, .int .u8 53, .int .u8 48, .int .u8 54, .int .u8 50, .int .u8 51, .int .u8 52, .int .u8 53, .int .u8 52, .int .u8 48, .int .u8 90] 5 (15, 16))).heap.size (W.alloc (.cells #[.int .u8 49, .int .u8 57, .int .u8 57, .int .u8 49, .int .u8 48, .int .u8 53, .int .u8 48, .int .u8 54, .int .u8 50, .int .u8 51, .int .u8 52, .int .u8 53, .int .u8 52, .int .u8 48, .int .u8 90] 5 (15, 16))) w' :=
  impl_ReadGeneralized.calls (some ⟨W.heap.size, 0, none⟩) 15 [49, 57, 57, 49, 48, 53, 48, 54, 50, 51, 52, 53, 52, 48, 90] 1991 5 6 23 45 40 0 0 true _ (C_const W [49, 57, 57, 49, 48, 53, 48, 54, 50, 51, 52, 53, 52, 48, 90] (15, 16) (by decide)) (by decide) hc
set_option maxHeartbeats 8000000 in
set_option maxRecDepth 100000 in
theorem lawGen_e1 (A0 : Option Addr) (c0 : Nat) (l : List Int) (y mo d h mi s na a : Int) (ok told : Bool) (w : World) (hr0 : Kd.C (Kd.int .u8) w A0 l.length l) (hc0 : l.length ≤ c0) (k1 : 2147483647 < l.length) :
    Calls Try.prog 6 #[.slice A0 l.length c0] w fun e w' => e = .returned (.bool true) ∧ Below w.heap.size w w' := by
  have HR0 := Aside0.mk hr0
  have HC0 := Aside0.mk hc0
  have HB0 := Aside0.mk (Below.refl w.heap.size w)
  have t1 : decide (2147483647 < l.length) = true := decide_eq_true k1
  have t1' : decide ((2147483647 : Int) < l.length) = true := decide_eq_true (by omega)
  clear hr0 hc0 k1
  go_enter Try.func6, Try.ntmps6
  go_wp2
  go_ret
  exact ⟨rfl, HB0.out⟩
set_option maxHeartbeats 8000000 in
set_option maxRecDepth 100000 in
theorem lawGen_e2 (A0 : Option Addr) (c0 : Nat) (l : List Int) (y mo d h mi s na a : Int) (ok told : Bool) (w : World) (hr0 : Kd.C (Kd.int .u8) w A0 l.length l) (hc0 : l.length ≤ c0) (hs : spec_Generalized.f l = some (y, mo, d, h, mi, s, na, a, ok, told)) (k1 : l.length ≤ 2147483647) (k2 : 60 < l.length) :
    Calls Try.prog 6 #[.slice A0 l.length c0] w fun e w' => e = .returned (.bool true) ∧ Below w.heap.size w w' := by
  have HR0 := Aside0.mk hr0
  have HC0 := Aside0.mk hc0
  have HB0 := Aside0.mk (Below.refl w.heap.size w)
  have HS' := Aside0.mk hs
  have t1 : decide (2147483647 < l.length) = false := decide_eq_false (by omega)
  have t1' : decide ((2147483647 : Int) < l.length) = false := decide_eq_false (by omega)
  have t60 : decide (60 < l.length) = true := decide_eq_true (by omega)
  have t60' : decide ((60 : Int) < l.length) = true := decide_eq_true (by omega)
  clear hr0 hc0 hs k1 k2
  go_enter Try.func6, Try.ntmps6
  go_wp2_with (first
    | (go_at_call 28; (with_reducible refine (spec_Generalized.calls A0 c0 l y mo d h mi s na a ok told _ HR0.out HC0.out HS'.out).mono ?_); rintro e w1 ⟨rfl, hb⟩; have HB1 := Aside0.mk hb; clear hb)
    | ((with_reducible refine gate_dst (N := 3) rfl ?_); refine box_event ?hg (N := 3) ?hd (cs := #[.int .i64 0, .int .i64 0, .int .i64 0, .int .i64 0, .int .i64 0, .int .i64 0, .int .i64 0, .int .i64 0]) (t := 44) ?hr ?_; (case hd => rfl); (case hg => rfl); (case hr => first | (go_simp; done) | (go_simp; rfl)); intro g3 hg w2 hbox hb; have B3 := Aside0.mk hbox; have HB2 := Aside0.mk (below_step HB1.out hb); have G3 := Aside0.mk (show w.heap.size ≤ g3 by rw [hg]; exact below_size HB1.out); have cz0 := (blk_cell B3.out 0).trans (show _ = some (.int .i64 0) from rfl); have czf0 := blk_frozen B3.out 0; have cz1 := (blk_cell B3.out 1).trans (show _ = some (.int .i64 0) from rfl); have czf1 := blk_frozen B3.out 1; have cz2 := (blk_cell B3.out 2).trans (show _ = some (.int .i64 0) from rfl); have czf2 := blk_frozen B3.out 2; have cz3 := (blk_cell B3.out 3).trans (show _ = some (.int .i64 0) from rfl); have czf3 := blk_frozen B3.out 3; have cz4 := (blk_cell B3.out 4).trans (show _ = some (.int .i64 0) from rfl); have czf4 := blk_frozen B3.out 4; have cz5 := (blk_cell B3.out 5).trans (show _ = some (.int .i64 0) from rfl); have czf5 := blk_frozen B3.out 5; have cz6 := (blk_cell B3.out 6).trans (show _ = some (.int .i64 0) from rfl); have czf6 := blk_frozen B3.out 6; have cz7 := (blk_cell B3.out 7).trans (show _ = some (.int .i64 0) from rfl); have czf7 := blk_frozen B3.out 7; clear hbox hb hg)
    | ((with_reducible refine gate_store (t := 44) (p := 3) rfl ?_); refine store_event (t := 44) (p := 3) (v := ?vo3) (w1 := put8 w2 g3 (.int .i64 y) (.int .i64 mo) (.int .i64 d) (.int .i64 h) (.int .i64 mi) (.int .i64 s) (.int .i64 na) (.int .i64 a)) ?hg ?ho ?hn ?hr ?_; (case ho => rfl); (case hg => rfl); (case hn => rfl); (case hr => first | (go_simp; done) | (go_simp; rfl)); intro w3 hw; have C3 := Aside0.mk (show w3.heap[g3]? = some (.cells #[.int .i64 y, .int .i64 mo, .int .i64 d, .int .i64 h, .int .i64 mi, .int .i64 s, .int .i64 na, .int .i64 a] 44 (0, 0)) from by rw [hw]; exact put8_blk B3.out (.int .i64 y) (.int .i64 mo) (.int .i64 d) (.int .i64 h) (.int .i64 mi) (.int .i64 s) (.int .i64 na) (.int .i64 a)); have HB3 := Aside0.mk (show Below w.heap.size w w3 from by rw [hw]; exact HB2.out.grown (put8_grown w2 g3 (.int .i64 y) (.int .i64 mo) (.int .i64 d) (.int .i64 h) (.int .i64 mi) (.int .i64 s) (.int .i64 na) (.int .i64 a)) (below_size HB2.out) (fun q hq => by cases hq; exact G3.out)); clear cz0 czf0 cz1 czf1 cz2 czf2 cz3 czf3 cz4 czf4 cz5 czf5 cz6 czf6 cz7 czf7; clear hw))
  go_ret
  exact ⟨rfl, HB3.out⟩
set_option maxHeartbeats 8000000 in
set_option maxRecDepth 100000 in
theorem lawGen_e3 (A0 : Option Addr) (c0 : Nat) (l : List Int) (y mo d h mi s na a : Int) (ok told : Bool) (w : World) (hr0 : Kd.C (Kd.int .u8) w A0 l.length l) (hc0 : l.length ≤ c0) (hs : spec_Generalized.f l = some (y, mo, d, h, mi, s, na, a, ok, told)) (k1 : l.length ≤ 60) (k2 : ok = true) (k3 : told = false) :
    Calls Try.prog 6 #[.slice A0 l.length c0] w fun e w' => e = .returned (.bool true) ∧ Below w.heap.size w w' := by
  have HR0 := Aside0.mk hr0
  have HC0 := Aside0.mk hc0
  have HB0 := Aside0.mk (Below.refl w.heap.size w)
  subst k2
  subst k3
  have HS' := Aside0.mk hs
  have t1 : decide (2147483647 < l.length) = false := decide_eq_false (by omega)
  have t1' : decide ((2147483647 : Int) < l.length) = false := decide_eq_false (by omega)
  have t60 : decide (60 < l.length) = false := decide_eq_false (by omega)
  have t60' : decide ((60 : Int) < l.length) = false := decide_eq_false (by omega)
  clear hr0 hc0 hs k1
  go_enter Try.func6, Try.ntmps6
  go_wp2_with (first
    | (go_at_call 28; (with_reducible refine (spec_Generalized.calls A0 c0 l y mo d h mi s na a true false _ HR0.out HC0.out HS'.out).mono ?_); rintro e w1 ⟨rfl, hb⟩; have HB1 := Aside0.mk hb; clear hb)
    | ((with_reducible refine gate_dst (N := 3) rfl ?_); refine box_event ?hg (N := 3) ?hd (cs := #[.int .i64 0, .int .i64 0, .int .i64 0, .int .i64 0, .int .i64 0, .int .i64 0, .int .i64 0, .int .i64 0]) (t := 44) ?hr ?_; (case hd => rfl); (case hg => rfl); (case hr => first | (go_simp; done) | (go_simp; rfl)); intro g3 hg w2 hbox hb; have B3 := Aside0.mk hbox; have HB2 := Aside0.mk (below_step HB1.out hb); have G3 := Aside0.mk (show w.heap.size ≤ g3 by rw [hg]; exact below_size HB1.out); have cz0 := (blk_cell B3.out 0).trans (show _ = some (.int .i64 0) from rfl); have czf0 := blk_frozen B3.out 0; have cz1 := (blk_cell B3.out 1).trans (show _ = some (.int .i64 0) from rfl); have czf1 := blk_frozen B3.out 1; have cz2 := (blk_cell B3.out 2).trans (show _ = some (.int .i64 0) from rfl); have czf2 := blk_frozen B3.out 2; have cz3 := (blk_cell B3.out 3).trans (show _ = some (.int .i64 0) from rfl); have czf3 := blk_frozen B3.out 3; have cz4 := (blk_cell B3.out 4).trans (show _ = some (.int .i64 0) from rfl); have czf4 := blk_frozen B3.out 4; have cz5 := (blk_cell B3.out 5).trans (show _ = some (.int .i64 0) from rfl); have czf5 := blk_frozen B3.out 5; have cz6 := (blk_cell B3.out 6).trans (show _ = some (.int .i64 0) from rfl); have czf6 := blk_frozen B3.out 6; have cz7 := (blk_cell B3.out 7).trans (show _ = some (.int .i64 0) from rfl); have czf7 := blk_frozen B3.out 7; clear hbox hb hg)
    | ((with_reducible refine gate_store (t := 44) (p := 3) rfl ?_); refine store_event (t := 44) (p := 3) (v := ?vo3) (w1 := put8 w2 g3 (.int .i64 y) (.int .i64 mo) (.int .i64 d) (.int .i64 h) (.int .i64 mi) (.int .i64 s) (.int .i64 na) (.int .i64 a)) ?hg ?ho ?hn ?hr ?_; (case ho => rfl); (case hg => rfl); (case hn => rfl); (case hr => first | (go_simp; done) | (go_simp; rfl)); intro w3 hw; have C3 := Aside0.mk (show w3.heap[g3]? = some (.cells #[.int .i64 y, .int .i64 mo, .int .i64 d, .int .i64 h, .int .i64 mi, .int .i64 s, .int .i64 na, .int .i64 a] 44 (0, 0)) from by rw [hw]; exact put8_blk B3.out (.int .i64 y) (.int .i64 mo) (.int .i64 d) (.int .i64 h) (.int .i64 mi) (.int .i64 s) (.int .i64 na) (.int .i64 a)); have HB3 := Aside0.mk (show Below w.heap.size w w3 from by rw [hw]; exact HB2.out.grown (put8_grown w2 g3 (.int .i64 y) (.int .i64 mo) (.int .i64 d) (.int .i64 h) (.int .i64 mi) (.int .i64 s) (.int .i64 na) (.int .i64 a)) (below_size HB2.out) (fun q hq => by cases hq; exact G3.out)); clear cz0 czf0 cz1 czf1 cz2 czf2 cz3 czf3 cz4 czf4 cz5 czf5 cz6 czf6 cz7 czf7; clear hw))
  go_ret
  exact ⟨rfl, HB3.out⟩
set_option maxHeartbeats 8000000 in
set_option maxRecDepth 100000 in
theorem lawGen_no (A0 : Option Addr) (c0 : Nat) (l : List Int) (y mo d h mi s na a : Int) (ok told : Bool) (w : World) (hr0 : Kd.C (Kd.int .u8) w A0 l.length l) (hc0 : l.length ≤ c0) (hs : spec_Generalized.f l = some (y, mo, d, h, mi, s, na, a, false, told)) (hi : impl_ReadGeneralized.f l = some (0, 0, 0, 0, 0, 0, 0, 0, false)) (hc : impl_ReadGeneralized.f [49, 57, 57, 49, 48, 53, 48, 54, 50, 51, 52, 53, 52, 48, 90] = some (1991, 5, 6, 23, 45, 40, 0, 0, true)) (k1 : l.length ≤ 60) :
    Calls Try.prog 6 #[.slice A0 l.length c0] w fun e w' => e = .returned (.bool true) ∧ Below w.heap.size w w' := by
  have HR0 := Aside0.mk hr0
  have HC0 := Aside0.mk hc0
  have HB0 := Aside0.mk (Below.refl w.heap.size w)
  have HS' := Aside0.mk hs
  have HI' := Aside0.mk hi
  have HK' := Aside0.mk hc
  have t1 : decide (2147483647 < l.length) = false := decide_eq_false (by omega)
  have t1' : decide ((2147483647 : Int) < l.length) = false := decide_eq_false (by omega)
  have t60 : decide (60 < l.length) = false := decide_eq_false (by omega)
  have t60' : decide ((60 : Int) < l.length) = false := decide_eq_false (by omega)
  clear hr0 hc0 hs hi hc k1
  have kc := fun (w : World) (C : Array Value) (n c : Nat) => Go.Lib.run_convert_bytes_const (P := Try.prog) w 25 5 C n c Try.underlying25 Try.underlying5
  go_enter Try.func6, Try.ntmps6
  go_wp2_with (first
    | (go_at_call 28; (with_reducible refine (spec_Generalized.calls A0 c0 l y mo d h mi s na a false told _ HR0.out HC0.out HS'.out).mono ?_); rintro e w1 ⟨rfl, hb⟩; have HB1 := Aside0.mk hb; clear hb)
    | ((with_reducible refine gate_dst (N := 3) rfl ?_); refine box_event ?hg (N := 3) ?hd (cs := #[.int .i64 0, .int .i64 0, .int .i64 0, .int .i64 0, .int .i64 0, .int .i64 0, .int .i64 0, .int .i64 0]) (t := 44) ?hr ?_; (case hd => rfl); (case hg => rfl); (case hr => first | (go_simp; done) | (go_simp; rfl)); intro g3 hg w2 hbox hb; have B3 := Aside0.mk hbox; have HB2 := Aside0.mk (below_step HB1.out hb); have G3 := Aside0.mk (show w.heap.size ≤ g3 by rw [hg]; exact below_size HB1.out); have cz0 := (blk_cell B3.out 0).trans (show _ = some (.int .i64 0) from rfl); have czf0 := blk_frozen B3.out 0; have cz1 := (blk_cell B3.out 1).trans (show _ = some (.int .i64 0) from rfl); have czf1 := blk_frozen B3.out 1; have cz2 := (blk_cell B3.out 2).trans (show _ = some (.int .i64 0) from rfl); have czf2 := blk_frozen B3.out 2; have cz3 := (blk_cell B3.out 3).trans (show _ = some (.int .i64 0) from rfl); have czf3 := blk_frozen B3.out 3; have cz4 := (blk_cell B3.out 4).trans (show _ = some (.int .i64 0) from rfl); have czf4 := blk_frozen B3.out 4; have cz5 := (blk_cell B3.out 5).trans (show _ = some (.int .i64 0) from rfl); have czf5 := blk_frozen B3.out 5; have cz6 := (blk_cell B3.out 6).trans (show _ = some (.int .i64 0) from rfl); have czf6 := blk_frozen B3.out 6; have cz7 := (blk_cell B3.out 7).trans (show _ = some (.int .i64 0) from rfl); have czf7 := blk_frozen B3.out 7; clear hbox hb hg)
    | ((with_reducible refine gate_store (t := 44) (p := 3) rfl ?_); refine store_event (t := 44) (p := 3) (v := ?vo3) (w1 := put8 w2 g3 (.int .i64 y) (.int .i64 mo) (.int .i64 d) (.int .i64 h) (.int .i64 mi) (.int .i64 s) (.int .i64 na) (.int .i64 a)) ?hg ?ho ?hn ?hr ?_; (case ho => rfl); (case hg => rfl); (case hn => rfl); (case hr => first | (go_simp; done) | (go_simp; rfl)); intro w3 hw; have C3 := Aside0.mk (show w3.heap[g3]? = some (.cells #[.int .i64 y, .int .i64 mo, .int .i64 d, .int .i64 h, .int .i64 mi, .int .i64 s, .int .i64 na, .int .i64 a] 44 (0, 0)) from by rw [hw]; exact put8_blk B3.out (.int .i64 y) (.int .i64 mo) (.int .i64 d) (.int .i64 h) (.int .i64 mi) (.int .i64 s) (.int .i64 na) (.int .i64 a)); have HB3 := Aside0.mk (show Below w.heap.size w w3 from by rw [hw]; exact HB2.out.grown (put8_grown w2 g3 (.int .i64 y) (.int .i64 mo) (.int .i64 d) (.int .i64 h) (.int .i64 mi) (.int .i64 s) (.int .i64 na) (.int .i64 a)) (below_size HB2.out) (fun q hq => by cases hq; exact G3.out)); clear cz0 czf0 cz1 czf1 cz2 czf2 cz3 czf3 cz4 czf4 cz5 czf5 cz6 czf6 cz7 czf7; clear hw)
    | (go_at_call 29; (with_reducible refine (impl_ReadGeneralized.calls A0 c0 l 0 0 0 0 0 0 0 0 false _ (Kd.C_below HR0.out HB3.out) HC0.out HI'.out).mono ?_); rintro e w4 ⟨rfl, hb⟩; have HB4 := Aside0.mk (below_step HB3.out hb); have D3 := Aside0.mk (blk_below C3.out hb); clear hb)
    | ((with_reducible refine gate_dst (N := 6) rfl ?_); refine box_event ?hg (N := 6) ?hd (cs := #[.int .i64 0, .int .i64 0, .int .i64 0, .int .i64 0, .int .i64 0, .int .i64 0, .int .i64 0, .int .i64 0]) (t := 47) ?hr ?_; (case hd => rfl); (case hg => rfl); (case hr => first | (go_simp; done) | (go_simp; rfl)); intro g6 hg w5 hbox hb; have B6 := Aside0.mk hbox; have HB5 := Aside0.mk (below_step HB4.out hb); have E3 := Aside0.mk (blk_below D3.out hb); have G6 := Aside0.mk (show w.heap.size ≤ g6 by rw [hg]; exact below_size HB4.out); have N36 := Aside0.mk (show g3 ≠ g6 by rw [hg]; exact Nat.ne_of_lt (blk_lt D3.out)); have cz0 := (blk_cell B6.out 0).trans (show _ = some (.int .i64 0) from rfl); have czf0 := blk_frozen B6.out 0; have cz1 := (blk_cell B6.out 1).trans (show _ = some (.int .i64 0) from rfl); have czf1 := blk_frozen B6.out 1; have cz2 := (blk_cell B6.out 2).trans (show _ = some (.int .i64 0) from rfl); have czf2 := blk_frozen B6.out 2; have cz3 := (blk_cell B6.out 3).trans (show _ = some (.int .i64 0) from rfl); have czf3 := blk_frozen B6.out 3; have cz4 := (blk_cell B6.out 4).trans (show _ = some (.int .i64 0) from rfl); have czf4 := blk_frozen B6.out 4; have cz5 := (blk_cell B6.out 5).trans (show _ = some (.int .i64 0) from rfl); have czf5 := blk_frozen B6.out 5; have cz6 := (blk_cell B6.out 6).trans (show _ = some (.int .i64 0) from rfl); have czf6 := blk_frozen B6.out 6; have cz7 := (blk_cell B6.out 7).trans (show _ = some (.int .i64 0) from rfl); have czf7 := blk_frozen B6.out 7; clear hbox hb hg)
    | ((with_reducible refine gate_store (t := 47) (p := 6) rfl ?_); refine store_event (t := 47) (p := 6) (v := ?vo6) (w1 := put8 w5 g6 (.int .i64 0) (.int .i64 0) (.int .i64 0) (.int .i64 0) (.int .i64 0) (.int .i64 0) (.int .i64 0) (.int .i64 0)) ?hg ?ho ?hn ?hr ?_; (case ho => rfl); (case hg => rfl); (case hn => rfl); (case hr => first | (go_simp; done) | (go_simp; rfl)); intro w6 hw; have C6 := Aside0.mk (show w6.heap[g6]? = some (.cells #[.int .i64 0, .int .i64 0, .int .i64 0, .int .i64 0, .int .i64 0, .int .i64 0, .int .i64 0, .int .i64 0] 47 (0, 0)) from by rw [hw]; exact put8_blk B6.out (.int .i64 0) (.int .i64 0) (.int .i64 0) (.int .i64 0) (.int .i64 0) (.int .i64 0) (.int .i64 0) (.int .i64 0)); have F3 := Aside0.mk (show w6.heap[g3]? = some (.cells #[.int .i64 y, .int .i64 mo, .int .i64 d, .int .i64 h, .int .i64 mi, .int .i64 s, .int .i64 na, .int .i64 a] 44 (0, 0)) from by rw [hw]; exact blk_grown E3.out (put8_grown w5 g6 (.int .i64 0) (.int .i64 0) (.int .i64 0) (.int .i64 0) (.int .i64 0) (.int .i64 0) (.int .i64 0) (.int .i64 0)) (fun e => N36.out (by injection e))); have HB6 := Aside0.mk (show Below w.heap.size w w6 from by rw [hw]; exact HB5.out.grown (put8_grown w5 g6 (.int .i64 0) (.int .i64 0) (.int .i64 0) (.int .i64 0) (.int .i64 0) (.int .i64 0) (.int .i64 0) (.int .i64 0)) (below_size HB5.out) (fun q hq => by cases hq; exact G6.out)); clear cz0 czf0 cz1 czf1 cz2 czf2 cz3 czf3 cz4 czf4 cz5 czf5 cz6 czf6 cz7 czf7; clear hw)
    | (go_at_call 29; refine (Gen_const w6 HK'.out).mono ?_; rintro e w7 ⟨rfl, hb⟩; have HB7 := Aside0.mk (below_step (below_alloc HB6.out _) hb); have P3 := Aside0.mk (blk_below (blk_alloc F3.out _) hb); have P6 := Aside0.mk (blk_below (blk_alloc C6.out _) hb); clear hb kc)
    | ((with_reducible refine gate_dst (N := 8) rfl ?_); refine box_event ?hg (N := 8) ?hd (cs := #[.int .i64 0, .int .i64 0, .int .i64 0, .int .i64 0, .int .i64 0, .int .i64 0, .int .i64 0, .int .i64 0]) (t := 47) ?hr ?_; (case hd => rfl); (case hg => rfl); (case hr => first | (go_simp; done) | (go_simp; rfl)); intro g8 hg w8 hbox hb; have B8 := Aside0.mk hbox; have HB8 := Aside0.mk (below_step HB7.out hb); have Q3 := Aside0.mk (blk_below P3.out hb); have Q6 := Aside0.mk (blk_below P6.out hb); have G8 := Aside0.mk (show w.heap.size ≤ g8 by rw [hg]; exact below_size HB7.out); have N38 := Aside0.mk (show g3 ≠ g8 by rw [hg]; exact Nat.ne_of_lt (blk_lt P3.out)); have N68 := Aside0.mk (show g6 ≠ g8 by rw [hg]; exact Nat.ne_of_lt (blk_lt P6.out)); have cz0 := (blk_cell B8.out 0).trans (show _ = some (.int .i64 0) from rfl); have czf0 := blk_frozen B8.out 0; have cz1 := (blk_cell B8.out 1).trans (show _ = some (.int .i64 0) from rfl); have czf1 := blk_frozen B8.out 1; have cz2 := (blk_cell B8.out 2).trans (show _ = some (.int .i64 0) from rfl); have czf2 := blk_frozen B8.out 2; have cz3 := (blk_cell B8.out 3).trans (show _ = some (.int .i64 0) from rfl); have czf3 := blk_frozen B8.out 3; have cz4 := (blk_cell B8.out 4).trans (show _ = some (.int .i64 0) from rfl); have czf4 := blk_frozen B8.out 4; have cz5 := (blk_cell B8.out 5).trans (show _ = some (.int .i64 0) from rfl); have czf5 := blk_frozen B8.out 5; have cz6 := (blk_cell B8.out 6).trans (show _ = some (.int .i64 0) from rfl); have czf6 := blk_frozen B8.out 6; have cz7 := (blk_cell B8.out 7).trans (show _ = some (.int .i64 0) from rfl); have czf7 := blk_frozen B8.out 7; clear hbox hb hg)
    | ((with_reducible refine gate_store (t := 47) (p := 8) rfl ?_); refine store_event (t := 47) (p := 8) (v := ?vo8) (w1 := put8 w8 g8 (.int .i64 1991) (.int .i64 5) (.int .i64 6) (.int .i64 23) (.int .i64 45) (.int .i64 40) (.int .i64 0) (.int .i64 0)) ?hg ?ho ?hn ?hr ?_; (case ho => rfl); (case hg => rfl); (case hn => rfl); (case hr => first | (go_simp; done) | (go_simp; rfl)); intro w9 hw; have C8 := Aside0.mk (show w9.heap[g8]? = some (.cells #[.int .i64 1991, .int .i64 5, .int .i64 6, .int .i64 23, .int .i64 45, .int .i64 40, .int .i64 0, .int .i64 0] 47 (0, 0)) from by rw [hw]; exact put8_blk B8.out (.int .i64 1991) (.int .i64 5) (.int .i64 6) (.int .i64 23) (.int .i64 45) (.int .i64 40) (.int .i64 0) (.int .i64 0)); have U3 := Aside0.mk (show w9.heap[g3]? = some (.cells #[.int .i64 y, .int .i64 mo, .int .i64 d, .int .i64 h, .int .i64 mi, .int .i64 s, .int .i64 na, .int .i64 a] 44 (0, 0)) from by rw [hw]; exact blk_grown Q3.out (put8_grown w8 g8 (.int .i64 1991) (.int .i64 5) (.int .i64 6) (.int .i64 23) (.int .i64 45) (.int .i64 40) (.int .i64 0) (.int .i64 0)) (fun e => N38.out (by injection e))); have U6 := Aside0.mk (show w9.heap[g6]? = some (.cells #[.int .i64 0, .int .i64 0, .int .i64 0, .int .i64 0, .int .i64 0, .int .i64 0, .int .i64 0, .int .i64 0] 47 (0, 0)) from by rw [hw]; exact blk_grown Q6.out (put8_grown w8 g8 (.int .i64 1991) (.int .i64 5) (.int .i64 6) (.int .i64 23) (.int .i64 45) (.int .i64 40) (.int .i64 0) (.int .i64 0)) (fun e => N68.out (by injection e))); have HB9 := Aside0.mk (show Below w.heap.size w w9 from by rw [hw]; exact HB8.out.grown (put8_grown w8 g8 (.int .i64 1991) (.int .i64 5) (.int .i64 6) (.int .i64 23) (.int .i64 45) (.int .i64 40) (.int .i64 0) (.int .i64 0)) (below_size HB8.out) (fun q hq => by cases hq; exact G8.out)); clear cz0 czf0 cz1 czf1 cz2 czf2 cz3 czf3 cz4 czf4 cz5 czf5 cz6 czf6 cz7 czf7; have c80 := (blk_cell C8.out 0).trans (show _ = some (.int .i64 1991) from rfl); clear hw))
  refine wp_region_quiet_lit (by kernel_rfl) (by kernel_rfl) ?_
  repeat (go_big_quiet_step (fail))
  refine wpQuiet_nil ?_
  intro _ hw'
  obtain ⟨nq, hw''⟩ := hw'
  subst hw''
  go_wp2
  go_ret
  exact ⟨rfl, pw_below_drewN HB9.out _⟩
set_option maxHeartbeats 8000000 in
set_option maxRecDepth 100000 in
theorem lawGen_yes (A0 : Option Addr) (c0 : Nat) (l : List Int) (y mo d h mi s na a : Int) (ok told : Bool) (w : World) (hr0 : Kd.C (Kd.int .u8) w A0 l.length l) (hc0 : l.length ≤ c0) (hs : spec_Generalized.f l = some (y, mo, d, h, mi, s, na, a, true, true)) (hi : impl_ReadGeneralized.f l = some (y, mo, d, h, mi, s, na, a, true)) (hc : impl_ReadGeneralized.f [49, 57, 57, 49, 48, 53, 48, 54, 50, 51, 52, 53, 52, 48, 90] = some (1991, 5, 6, 23, 45, 40, 0, 0, true)) (k1 : l.length ≤ 60) :
    Calls Try.prog 6 #[.slice A0 l.length c0] w fun e w' => e = .returned (.bool true) ∧ Below w.heap.size w w' := by
  have HR0 := Aside0.mk hr0
  have HC0 := Aside0.mk hc0
  have HB0 := Aside0.mk (Below.refl w.heap.size w)
  have HS' := Aside0.mk hs
  have HI' := Aside0.mk hi
  have HK' := Aside0.mk hc
  have t1 : decide (2147483647 < l.length) = false := decide_eq_false (by omega)
  have t1' : decide ((2147483647 : Int) < l.length) = false := decide_eq_false (by omega)
  have t60 : decide (60 < l.length) = false := decide_eq_false (by omega)
  have t60' : decide ((60 : Int) < l.length) = false := decide_eq_false (by omega)
  clear hr0 hc0 hs hi hc k1
  have kc := fun (w : World) (C : Array Value) (n c : Nat) => Go.Lib.run_convert_bytes_const (P := Try.prog) w 25 5 C n c Try.underlying25 Try.underlying5
  go_enter Try.func6, Try.ntmps6
  go_wp2_with (first
    | (go_at_call 28; (with_reducible refine (spec_Generalized.calls A0 c0 l y mo d h mi s na a true true _ HR0.out HC0.out HS'.out).mono ?_); rintro e w1 ⟨rfl, hb⟩; have HB1 := Aside0.mk hb; clear hb)
    | ((with_reducible refine gate_dst (N := 3) rfl ?_); refine box_event ?hg (N := 3) ?hd (cs := #[.int .i64 0, .int .i64 0, .int .i64 0, .int .i64 0, .int .i64 0, .int .i64 0, .int .i64 0, .int .i64 0]) (t := 44) ?hr ?_; (case hd => rfl); (case hg => rfl); (case hr => first | (go_simp; done) | (go_simp; rfl)); intro g3 hg w2 hbox hb; have B3 := Aside0.mk hbox; have HB2 := Aside0.mk (below_step HB1.out hb); have G3 := Aside0.mk (show w.heap.size ≤ g3 by rw [hg]; exact below_size HB1.out); have cz0 := (blk_cell B3.out 0).trans (show _ = some (.int .i64 0) from rfl); have czf0 := blk_frozen B3.out 0; have cz1 := (blk_cell B3.out 1).trans (show _ = some (.int .i64 0) from rfl); have czf1 := blk_frozen B3.out 1; have cz2 := (blk_cell B3.out 2).trans (show _ = some (.int .i64 0) from rfl); have czf2 := blk_frozen B3.out 2; have cz3 := (blk_cell B3.out 3).trans (show _ = some (.int .i64 0) from rfl); have czf3 := blk_frozen B3.out 3; have cz4 := (blk_cell B3.out 4).trans (show _ = some (.int .i64 0) from rfl); have czf4 := blk_frozen B3.out 4; have cz5 := (blk_cell B3.out 5).trans (show _ = some (.int .i64 0) from rfl); have czf5 := blk_frozen B3.out 5; have cz6 := (blk_cell B3.out 6).trans (show _ = some (.int .i64 0) from rfl); have czf6 := blk_frozen B3.out 6; have cz7 := (blk_cell B3.out 7).trans (show _ = some (.int .i64 0) from rfl); have czf7 := blk_frozen B3.out 7; clear hbox hb hg)
    | ((with_reducible refine gate_store (t := 44) (p := 3) rfl ?_); refine store_event (t := 44) (p := 3) (v := ?vo3) (w1 := put8 w2 g3 (.int .i64 y) (.int .i64 mo) (.int .i64 d) (.int .i64 h) (.int .i64 mi) (.int .i64 s) (.int .i64 na) (.int .i64 a)) ?hg ?ho ?hn ?hr ?_; (case ho => rfl); (case hg => rfl); (case hn => rfl); (case hr => first | (go_simp; done) | (go_simp; rfl)); intro w3 hw; have C3 := Aside0.mk (show w3.heap[g3]? = some (.cells #[.int .i64 y, .int .i64 mo, .int .i64 d, .int .i64 h, .int .i64 mi, .int .i64 s, .int .i64 na, .int .i64 a] 44 (0, 0)) from by rw [hw]; exact put8_blk B3.out (.int .i64 y) (.int .i64 mo) (.int .i64 d) (.int .i64 h) (.int .i64 mi) (.int .i64 s) (.int .i64 na) (.int .i64 a)); have HB3 := Aside0.mk (show Below w.heap.size w w3 from by rw [hw]; exact HB2.out.grown (put8_grown w2 g3 (.int .i64 y) (.int .i64 mo) (.int .i64 d) (.int .i64 h) (.int .i64 mi) (.int .i64 s) (.int .i64 na) (.int .i64 a)) (below_size HB2.out) (fun q hq => by cases hq; exact G3.out)); clear cz0 czf0 cz1 czf1 cz2 czf2 cz3 czf3 cz4 czf4 cz5 czf5 cz6 czf6 cz7 czf7; clear hw)
    | (go_at_call 29; (with_reducible refine (impl_ReadGeneralized.calls A0 c0 l y mo d h mi s na a true _ (Kd.C_below HR0.out HB3.out) HC0.out HI'.out).mono ?_); rintro e w4 ⟨rfl, hb⟩; have HB4 := Aside0.mk (below_step HB3.out hb); have D3 := Aside0.mk (blk_below C3.out hb); clear hb)
    | ((with_reducible refine gate_dst (N := 6) rfl ?_); refine box_event ?hg (N := 6) ?hd (cs := #[.int .i64 0, .int .i64 0, .int .i64 0, .int .i64 0, .int .i64 0, .int .i64 0, .int .i64 0, .int .i64 0]) (t := 47) ?hr ?_; (case hd => rfl); (case hg => rfl); (case hr => first | (go_simp; done) | (go_simp; rfl)); intro g6 hg w5 hbox hb; have B6 := Aside0.mk hbox; have HB5 := Aside0.mk (below_step HB4.out hb); have E3 := Aside0.mk (blk_below D3.out hb); have G6 := Aside0.mk (show w.heap.size ≤ g6 by rw [hg]; exact below_size HB4.out); have N36 := Aside0.mk (show g3 ≠ g6 by rw [hg]; exact Nat.ne_of_lt (blk_lt D3.out)); have cz0 := (blk_cell B6.out 0).trans (show _ = some (.int .i64 0) from rfl); have czf0 := blk_frozen B6.out 0; have cz1 := (blk_cell B6.out 1).trans (show _ = some (.int .i64 0) from rfl); have czf1 := blk_frozen B6.out 1; have cz2 := (blk_cell B6.out 2).trans (show _ = some (.int .i64 0) from rfl); have czf2 := blk_frozen B6.out 2; have cz3 := (blk_cell B6.out 3).trans (show _ = some (.int .i64 0) from rfl); have czf3 := blk_frozen B6.out 3; have cz4 := (blk_cell B6.out 4).trans (show _ = some (.int .i64 0) from rfl); have czf4 := blk_frozen B6.out 4; have cz5 := (blk_cell B6.out 5).trans (show _ = some (.int .i64 0) from rfl); have czf5 := blk_frozen B6.out 5; have cz6 := (blk_cell B6.out 6).trans (show _ = some (.int .i64 0) from rfl); have czf6 := blk_frozen B6.out 6; have cz7 := (blk_cell B6.out 7).trans (show _ = some (.int .i64 0) from rfl); have czf7 := blk_frozen B6.out 7; clear hbox hb hg)
    | ((with_reducible refine gate_store (t := 47) (p := 6) rfl ?_); refine store_event (t := 47) (p := 6) (v := ?vo6) (w1 := put8 w5 g6 (.int .i64 y) (.int .i64 mo) (.int .i64 d) (.int .i64 h) (.int .i64 mi) (.int .i64 s) (.int .i64 na) (.int .i64 a)) ?hg ?ho ?hn ?hr ?_; (case ho => rfl); (case hg => rfl); (case hn => rfl); (case hr => first | (go_simp; done) | (go_simp; rfl)); intro w6 hw; have C6 := Aside0.mk (show w6.heap[g6]? = some (.cells #[.int .i64 y, .int .i64 mo, .int .i64 d, .int .i64 h, .int .i64 mi, .int .i64 s, .int .i64 na, .int .i64 a] 47 (0, 0)) from by rw [hw]; exact put8_blk B6.out (.int .i64 y) (.int .i64 mo) (.int .i64 d) (.int .i64 h) (.int .i64 mi) (.int .i64 s) (.int .i64 na) (.int .i64 a)); have F3 := Aside0.mk (show w6.heap[g3]? = some (.cells #[.int .i64 y, .int .i64 mo, .int .i64 d, .int .i64 h, .int .i64 mi, .int .i64 s, .int .i64 na, .int .i64 a] 44 (0, 0)) from by rw [hw]; exact blk_grown E3.out (put8_grown w5 g6 (.int .i64 y) (.int .i64 mo) (.int .i64 d) (.int .i64 h) (.int .i64 mi) (.int .i64 s) (.int .i64 na) (.int .i64 a)) (fun e => N36.out (by injection e))); have HB6 := Aside0.mk (show Below w.heap.size w w6 from by rw [hw]; exact HB5.out.grown (put8_grown w5 g6 (.int .i64 y) (.int .i64 mo) (.int .i64 d) (.int .i64 h) (.int .i64 mi) (.int .i64 s) (.int .i64 na) (.int .i64 a)) (below_size HB5.out) (fun q hq => by cases hq; exact G6.out)); clear cz0 czf0 cz1 czf1 cz2 czf2 cz3 czf3 cz4 czf4 cz5 czf5 cz6 czf6 cz7 czf7; clear hw)
    | (go_at_call 29; refine (Gen_const w6 HK'.out).mono ?_; rintro e w7 ⟨rfl, hb⟩; have HB7 := Aside0.mk (below_step (below_alloc HB6.out _) hb); have P3 := Aside0.mk (blk_below (blk_alloc F3.out _) hb); have P6 := Aside0.mk (blk_below (blk_alloc C6.out _) hb); clear hb kc)
    | ((with_reducible refine gate_dst (N := 8) rfl ?_); refine box_event ?hg (N := 8) ?hd (cs := #[.int .i64 0, .int .i64 0, .int .i64 0, .int .i64 0, .int .i64 0, .int .i64 0, .int .i64 0, .int .i64 0]) (t := 47) ?hr ?_; (case hd => rfl); (case hg => rfl); (case hr => first | (go_simp; done) | (go_simp; rfl)); intro g8 hg w8 hbox hb; have B8 := Aside0.mk hbox; have HB8 := Aside0.mk (below_step HB7.out hb); have Q3 := Aside0.mk (blk_below P3.out hb); have Q6 := Aside0.mk (blk_below P6.out hb); have G8 := Aside0.mk (show w.heap.size ≤ g8 by rw [hg]; exact below_size HB7.out); have N38 := Aside0.mk (show g3 ≠ g8 by rw [hg]; exact Nat.ne_of_lt (blk_lt P3.out)); have N68 := Aside0.mk (show g6 ≠ g8 by rw [hg]; exact Nat.ne_of_lt (blk_lt P6.out)); have cz0 := (blk_cell B8.out 0).trans (show _ = some (.int .i64 0) from rfl); have czf0 := blk_frozen B8.out 0; have cz1 := (blk_cell B8.out 1).trans (show _ = some (.int .i64 0) from rfl); have czf1 := blk_frozen B8.out 1; have cz2 := (blk_cell B8.out 2).trans (show _ = some (.int .i64 0) from rfl); have czf2 := blk_frozen B8.out 2; have cz3 := (blk_cell B8.out 3).trans (show _ = some (.int .i64 0) from rfl); have czf3 := blk_frozen B8.out 3; have cz4 := (blk_cell B8.out 4).trans (show _ = some (.int .i64 0) from rfl); have czf4 := blk_frozen B8.out 4; have cz5 := (blk_cell B8.out 5).trans (show _ = some (.int .i64 0) from rfl); have czf5 := blk_frozen B8.out 5; have cz6 := (blk_cell B8.out 6).trans (show _ = some (.int .i64 0) from rfl); have czf6 := blk_frozen B8.out 6; have cz7 := (blk_cell B8.out 7).trans (show _ = some (.int .i64 0) from rfl); have czf7 := blk_frozen B8.out 7; clear hbox hb hg)
    | ((with_reducible refine gate_store (t := 47) (p := 8) rfl ?_); refine store_event (t := 47) (p := 8) (v := ?vo8) (w1 := put8 w8 g8 (.int .i64 1991) (.int .i64 5) (.int .i64 6) (.int .i64 23) (.int .i64 45) (.int .i64 40) (.int .i64 0) (.int .i64 0)) ?hg ?ho ?hn ?hr ?_; (case ho => rfl); (case hg => rfl); (case hn => rfl); (case hr => first | (go_simp; done) | (go_simp; rfl)); intro w9 hw; have C8 := Aside0.mk (show w9.heap[g8]? = some (.cells #[.int .i64 1991, .int .i64 5, .int .i64 6, .int .i64 23, .int .i64 45, .int .i64 40, .int .i64 0, .int .i64 0] 47 (0, 0)) from by rw [hw]; exact put8_blk B8.out (.int .i64 1991) (.int .i64 5) (.int .i64 6) (.int .i64 23) (.int .i64 45) (.int .i64 40) (.int .i64 0) (.int .i64 0)); have U3 := Aside0.mk (show w9.heap[g3]? = some (.cells #[.int .i64 y, .int .i64 mo, .int .i64 d, .int .i64 h, .int .i64 mi, .int .i64 s, .int .i64 na, .int .i64 a] 44 (0, 0)) from by rw [hw]; exact blk_grown Q3.out (put8_grown w8 g8 (.int .i64 1991) (.int .i64 5) (.int .i64 6) (.int .i64 23) (.int .i64 45) (.int .i64 40) (.int .i64 0) (.int .i64 0)) (fun e => N38.out (by injection e))); have U6 := Aside0.mk (show w9.heap[g6]? = some (.cells #[.int .i64 y, .int .i64 mo, .int .i64 d, .int .i64 h, .int .i64 mi, .int .i64 s, .int .i64 na, .int .i64 a] 47 (0, 0)) from by rw [hw]; exact blk_grown Q6.out (put8_grown w8 g8 (.int .i64 1991) (.int .i64 5) (.int .i64 6) (.int .i64 23) (.int .i64 45) (.int .i64 40) (.int .i64 0) (.int .i64 0)) (fun e => N68.out (by injection e))); have HB9 := Aside0.mk (show Below w.heap.size w w9 from by rw [hw]; exact HB8.out.grown (put8_grown w8 g8 (.int .i64 1991) (.int .i64 5) (.int .i64 6) (.int .i64 23) (.int .i64 45) (.int .i64 40) (.int .i64 0) (.int .i64 0)) (below_size HB8.out) (fun q hq => by cases hq; exact G8.out)); clear cz0 czf0 cz1 czf1 cz2 czf2 cz3 czf3 cz4 czf4 cz5 czf5 cz6 czf6 cz7 czf7; have c80 := (blk_cell C8.out 0).trans (show _ = some (.int .i64 1991) from rfl); clear hw))
  refine start_ (n := 22) (S := fun w' => w'.cell? ⟨g6, 0, none⟩ = some (.int .i64 y) ∧ w'.cell? ⟨g6, 1, none⟩ = some (.int .i64 mo) ∧ w'.cell? ⟨g6, 2, none⟩ = some (.int .i64 d) ∧ w'.cell? ⟨g6, 3, none⟩ = some (.int .i64 h) ∧ w'.cell? ⟨g6, 4, none⟩ = some (.int .i64 mi) ∧ w'.cell? ⟨g6, 5, none⟩ = some (.int .i64 s) ∧ w'.cell? ⟨g6, 6, none⟩ = some (.int .i64 na) ∧ w'.cell? ⟨g6, 7, none⟩ = some (.int .i64 a) ∧ w'.cell? ⟨g3, 0, none⟩ = some (.int .i64 y) ∧ w'.cell? ⟨g3, 1, none⟩ = some (.int .i64 mo) ∧ w'.cell? ⟨g3, 2, none⟩ = some (.int .i64 d) ∧ w'.cell? ⟨g3, 3, none⟩ = some (.int .i64 h) ∧ w'.cell? ⟨g3, 4, none⟩ = some (.int .i64 mi) ∧ w'.cell? ⟨g3, 5, none⟩ = some (.int .i64 s) ∧ w'.cell? ⟨g3, 6, none⟩ = some (.int .i64 na) ∧ w'.cell? ⟨g3, 7, none⟩ = some (.int .i64 a) ∧ w'.cell? ⟨g8, 0, none⟩ = some (.int .i64 1991)) (ds := []) #[false, false, false, false, false, false, false, false, false, false, false, false, false, false, false, false, false, false, false, false, false, false] (by kernel_rfl) rfl rfl ⟨(blk_cell U6.out 0).trans rfl, (blk_cell U6.out 1).trans rfl, (blk_cell U6.out 2).trans rfl, (blk_cell U6.out 3).trans rfl, (blk_cell U6.out 4).trans rfl, (blk_cell U6.out 5).trans rfl, (blk_cell U6.out 6).trans rfl, (blk_cell U6.out 7).trans rfl, (blk_cell U3.out 0).trans rfl, (blk_cell U3.out 1).trans rfl, (blk_cell U3.out 2).trans rfl, (blk_cell U3.out 3).trans rfl, (blk_cell U3.out 4).trans rfl, (blk_cell U3.out 5).trans rfl, (blk_cell U3.out 6).trans rfl, (blk_cell U3.out 7).trans rfl, (blk_cell C8.out 0).trans rfl⟩ (fun hHeld => ?_)
  generalize hwg : w9.drew = w10 at hHeld ⊢
  have HB10 := Aside0.mk (show Below w.heap.size w w10 from hwg ▸ below_drew1 HB9.out)
  have U3' := Aside0.mk (show w10.heap[g3]? = some (.cells #[.int .i64 y, .int .i64 mo, .int .i64 d, .int .i64 h, .int .i64 mi, .int .i64 s, .int .i64 na, .int .i64 a] 44 (0, 0)) from hwg ▸ U3.out)
  have U6' := Aside0.mk (show w10.heap[g6]? = some (.cells #[.int .i64 y, .int .i64 mo, .int .i64 d, .int .i64 h, .int .i64 mi, .int .i64 s, .int .i64 na, .int .i64 a] 47 (0, 0)) from hwg ▸ U6.out)
  have C8' := Aside0.mk (show w10.heap[g8]? = some (.cells #[.int .i64 1991, .int .i64 5, .int .i64 6, .int .i64 23, .int .i64 45, .int .i64 40, .int .i64 0, .int .i64 0] 47 (0, 0)) from hwg ▸ C8.out)
  clear hwg c80
  refine take_ (i := 0) (N := some 40) (v := ?_) (a' := ?_) #[true, false, false, false, false, false, false, false, false, false, false, false, false, false, false, false, false, false, false, false, false, false] rfl rfl (by kernel_rfl) (fun _ _ _ h => h) (Or.inl ⟨by rfl, ?_⟩) hHeld ?_ ?_
  rotate_left
  · rintro w' ⟨s0, s1, s2, s3, s4, s5, s6, s7, s8, s9, s10, s11, s12, s13, s14, s15, s16⟩
    go_simp
    with_reducible rfl
  rotate_left
  · simp only [Act.put, List.setIfInBounds_toArray, List.set_cons_zero, List.set_cons_succ, i64_w, i32_w]
    rfl
  refine take_ (i := 1) (N := some 41) (v := ?_) (a' := ?_) #[true, true, false, false, false, false, false, false, false, false, false, false, false, false, false, false, false, false, false, false, false, false] rfl rfl (by kernel_rfl) (fun _ _ _ h => h) (Or.inl ⟨by rfl, ?_⟩) hHeld ?_ ?_
  rotate_left
  · rintro w' ⟨s0, s1, s2, s3, s4, s5, s6, s7, s8, s9, s10, s11, s12, s13, s14, s15, s16⟩
    go_simp
    with_reducible rfl
  rotate_left
  · simp only [Act.put, List.setIfInBounds_toArray, List.set_cons_zero, List.set_cons_succ, i64_w, i32_w]
    rfl
  refine take_ (i := 2) (N := some 42) (v := ?_) (a' := ?_) #[true, true, true, false, false, false, false, false, false, false, false, false, false, false, false, false, false, false, false, false, false, false] rfl rfl (by kernel_rfl) (fun _ _ _ h => h) (Or.inl ⟨by rfl, ?_⟩) hHeld ?_ ?_
  rotate_left
  · rintro w' ⟨s0, s1, s2, s3, s4, s5, s6, s7, s8, s9, s10, s11, s12, s13, s14, s15, s16⟩
    go_simp
    with_reducible rfl
  rotate_left
  · simp only [Act.put, List.setIfInBounds_toArray, List.set_cons_zero, List.set_cons_succ, i64_w, i32_w]
    rfl
  refine take_ (i := 3) (N := some 43) (v := ?_) (a' := ?_) #[true, true, true, true, false, false, false, false, false, false, false, false, false, false, false, false, false, false, false, false, false, false] rfl rfl (by kernel_rfl) (fun _ _ _ h => h) (Or.inl ⟨by rfl, ?_⟩) hHeld ?_ ?_
  rotate_left
  · rintro w' ⟨s0, s1, s2, s3, s4, s5, s6, s7, s8, s9, s10, s11, s12, s13, s14, s15, s16⟩
    go_simp
    with_reducible rfl
  rotate_left
  · simp only [Act.put, List.setIfInBounds_toArray, List.set_cons_zero, List.set_cons_succ, i64_w, i32_w]
    rfl
  refine take_ (i := 4) (N := some 44) (v := ?_) (a' := ?_) #[true, true, true, true, true, false, false, false, false, false, false, false, false, false, false, false, false, false, false, false, false, false] rfl rfl (by kernel_rfl) (fun _ _ _ h => h) (Or.inl ⟨by rfl, ?_⟩) hHeld ?_ ?_
  rotate_left
  · rintro w' ⟨s0, s1, s2, s3, s4, s5, s6, s7, s8, s9, s10, s11, s12, s13, s14, s15, s16⟩
    go_simp
    with_reducible rfl
  rotate_left
  · simp only [Act.put, List.setIfInBounds_toArray, List.set_cons_zero, List.set_cons_succ, i64_w, i32_w]
    rfl
  refine take_ (i := 5) (N := some 45) (v := ?_) (a' := ?_) #[true, true, true, true, true, true, false, false, false, false, false, false, false, false, false, false, false, false, false, false, false, false] rfl rfl (by kernel_rfl) (fun _ _ _ h => h) (Or.inl ⟨by rfl, ?_⟩) hHeld ?_ ?_
  rotate_left
  · rintro w' ⟨s0, s1, s2, s3, s4, s5, s6, s7, s8, s9, s10, s11, s12, s13, s14, s15, s16⟩
    go_simp
    with_reducible rfl
  rotate_left
  · simp only [Act.put, List.setIfInBounds_toArray, List.set_cons_zero, List.set_cons_succ, i64_w, i32_w]
    rfl
  refine take_ (i := 6) (N := some 46) (v := ?_) (a' := ?_) #[true, true, true, true, true, true, true, false, false, false, false, false, false, false, false, false, false, false, false, false, false, false] rfl rfl (by kernel_rfl) (fun _ _ _ h => h) (Or.inl ⟨by rfl, ?_⟩) hHeld ?_ ?_
  rotate_left
  · rintro w' ⟨s0, s1, s2, s3, s4, s5, s6, s7, s8, s9, s10, s11, s12, s13, s14, s15, s16⟩
    go_simp
    with_reducible rfl
  rotate_left
  · simp only [Act.put, List.setIfInBounds_toArray, List.set_cons_zero, List.set_cons_succ, i64_w, i32_w]
    rfl
  refine take_ (i := 7) (N := some 47) (v := ?_) (a' := ?_) #[true, true, true, true, true, true, true, true, false, false, false, false, false, false, false, false, false, false, false, false, false, false] rfl rfl (by kernel_rfl) (fun _ _ _ h => h) (Or.inl ⟨by rfl, ?_⟩) hHeld ?_ ?_
  rotate_left
  · rintro w' ⟨s0, s1, s2, s3, s4, s5, s6, s7, s8, s9, s10, s11, s12, s13, s14, s15, s16⟩
    go_simp
    with_reducible rfl
  rotate_left
  · simp only [Act.put, List.setIfInBounds_toArray, List.set_cons_zero, List.set_cons_succ, i64_w, i32_w]
    rfl
  refine take_ (i := 8) (N := some 48) (v := ?_) (a' := ?_) #[true, true, true, true, true, true, true, true, true, false, false, false, false, false, false, false, false, false, false, false, false, false] rfl rfl (by kernel_rfl) (fun _ _ _ h => h) (Or.inl ⟨by rfl, ?_⟩) hHeld ?_ ?_
  rotate_left
  · rintro w' ⟨s0, s1, s2, s3, s4, s5, s6, s7, s8, s9, s10, s11, s12, s13, s14, s15, s16⟩
    go_simp
    with_reducible rfl
  rotate_left
  · simp only [Act.put, List.setIfInBounds_toArray, List.set_cons_zero, List.set_cons_succ, i64_w, i32_w]
    rfl
  refine one_ (i := 9) (N := some 49) #[true, true, true, true, true, true, true, true, true, true, false, false, false, false, false, false, false, false, false, false, false, false] rfl rfl (by kernel_rfl) (by decide) (fun K hK => ?_)
  refine goes_ Try.func27 (by kernel_rfl) rfl #[.agg #[.int .i64 y, .int .i64 mo, .int .i64 d, .int .i64 h, .int .i64 mi, .int .i64 s, .int .i64 na, .int .i64 a]] (by rfl) rfl rfl (by (try simp only [List.map_toArray, List.map_cons, List.map_nil]); first | done | rfl) ?_
  with_reducible refine (laws_clock.calls y mo d h mi s na a y mo d h mi s na a _ rfl).mono ?_
  rintro e w11 ⟨rfl, hb⟩
  refine ⟨_, rfl, ?_⟩
  have HB11 := Aside0.mk (below_step HB10.out hb)
  have U3'' := Aside0.mk (blk_below U3'.out hb)
  have U6'' := Aside0.mk (blk_below U6'.out hb)
  have C8'' := Aside0.mk (blk_below C8'.out hb)
  clear hb hHeld
  refine hK.out _ _ ⟨(blk_cell U6''.out 0).trans rfl, (blk_cell U6''.out 1).trans rfl, (blk_cell U6''.out 2).trans rfl, (blk_cell U6''.out 3).trans rfl, (blk_cell U6''.out 4).trans rfl, (blk_cell U6''.out 5).trans rfl, (blk_cell U6''.out 6).trans rfl, (blk_cell U6''.out 7).trans rfl, (blk_cell U3''.out 0).trans rfl, (blk_cell U3''.out 1).trans rfl, (blk_cell U3''.out 2).trans rfl, (blk_cell U3''.out 3).trans rfl, (blk_cell U3''.out 4).trans rfl, (blk_cell U3''.out 5).trans rfl, (blk_cell U3''.out 6).trans rfl, (blk_cell U3''.out 7).trans rfl, (blk_cell C8''.out 0).trans rfl⟩ (fun hHeld => ?_)
  clear hK K
  refine norm_ (a' := ?_) ?_ ?_
  rotate_left
  · show Act.put _ (some 49) _ = _
    simp only [Act.put, List.setIfInBounds_toArray, List.set_cons_zero, List.set_cons_succ, i64_w, i32_w]
    rfl
  refine take_ (i := 10) (N := some 50) (v := .bool true) (a' := ?_) #[true, true, true, true, true, true, true, true, true, true, true, false, false, false, false, false, false, false, false, false, false, false] rfl rfl (by kernel_rfl) (fun _ _ _ h => h) (Or.inl ⟨by rfl, ?_⟩) hHeld ?_ ?_
  · rintro w' ⟨s0, s1, s2, s3, s4, s5, s6, s7, s8, s9, s10, s11, s12, s13, s14, s15, s16⟩
    go_simp
    try simp
  rotate_left
  · simp only [Act.put, List.setIfInBounds_toArray, List.set_cons_zero, List.set_cons_succ, i64_w, i32_w]
    rfl
  refine take_ (i := 11) (N := some 51) (v := ?_) (a' := ?_) #[true, true, true, true, true, true, true, true, true, true, true, true, false, false, false, false, false, false, false, false, false, false] rfl rfl (by kernel_rfl) (fun _ _ _ h => h) (Or.inl ⟨by rfl, ?_⟩) hHeld ?_ ?_
  rotate_left
  · rintro w' ⟨s0, s1, s2, s3, s4, s5, s6, s7, s8, s9, s10, s11, s12, s13, s14, s15, s16⟩
    go_simp
    with_reducible rfl
  rotate_left
  · simp only [Act.put, List.setIfInBounds_toArray, List.set_cons_zero, List.set_cons_succ, i64_w, i32_w]
    rfl
  refine take_ (i := 12) (N := some 52) (v := ?_) (a' := ?_) #[true, true, true, true, true, true, true, true, true, true, true, true, true, false, false, false, false, false, false, false, false, false] rfl rfl (by kernel_rfl) (fun _ _ _ h => h) (Or.inl ⟨by rfl, ?_⟩) hHeld ?_ ?_
  rotate_left
  · rintro w' ⟨s0, s1, s2, s3, s4, s5, s6, s7, s8, s9, s10, s11, s12, s13, s14, s15, s16⟩
    go_simp
    with_reducible rfl
  rotate_left
  · simp only [Act.put, List.setIfInBounds_toArray, List.set_cons_zero, List.set_cons_succ, i64_w, i32_w]
    rfl
  refine take_ (i := 13) (N := some 53) (v := ?_) (a' := ?_) #[true, true, true, true, true, true, true, true, true, true, true, true, true, true, false, false, false, false, false, false, false, false] rfl rfl (by kernel_rfl) (fun _ _ _ h => h) (Or.inl ⟨by rfl, ?_⟩) hHeld ?_ ?_
  rotate_left
  · rintro w' ⟨s0, s1, s2, s3, s4, s5, s6, s7, s8, s9, s10, s11, s12, s13, s14, s15, s16⟩
    go_simp
    with_reducible rfl
  rotate_left
  · simp only [Act.put, List.setIfInBounds_toArray, List.set_cons_zero, List.set_cons_succ, i64_w, i32_w]
    rfl
  refine take_ (i := 14) (N := some 54) (v := ?_) (a' := ?_) #[true, true, true, true, true, true, true, true, true, true, true, true, true, true, true, false, false, false, false, false, false, false] rfl rfl (by kernel_rfl) (fun _ _ _ h => h) (Or.inl ⟨by rfl, ?_⟩) hHeld ?_ ?_
  rotate_left
  · rintro w' ⟨s0, s1, s2, s3, s4, s5, s6, s7, s8, s9, s10, s11, s12, s13, s14, s15, s16⟩
    go_simp
    with_reducible rfl
  rotate_left
  · simp only [Act.put, List.setIfInBounds_toArray, List.set_cons_zero, List.set_cons_succ, i64_w, i32_w]
    rfl
  refine take_ (i := 15) (N := some 55) (v := ?_) (a' := ?_) #[true, true, true, true, true, true, true, true, true, true, true, true, true, true, true, true, false, false, false, false, false, false] rfl rfl (by kernel_rfl) (fun _ _ _ h => h) (Or.inl ⟨by rfl, ?_⟩) hHeld ?_ ?_
  rotate_left
  · rintro w' ⟨s0, s1, s2, s3, s4, s5, s6, s7, s8, s9, s10, s11, s12, s13, s14, s15, s16⟩
    go_simp
    with_reducible rfl
  rotate_left
  · simp only [Act.put, List.setIfInBounds_toArray, List.set_cons_zero, List.set_cons_succ, i64_w, i32_w]
    rfl
  refine take_ (i := 16) (N := some 56) (v := ?_) (a' := ?_) #[true, true, true, true, true, true, true, true, true, true, true, true, true, true, true, true, true, false, false, false, false, false] rfl rfl (by kernel_rfl) (fun _ _ _ h => h) (Or.inl ⟨by rfl, ?_⟩) hHeld ?_ ?_
  rotate_left
  · rintro w' ⟨s0, s1, s2, s3, s4, s5, s6, s7, s8, s9, s10, s11, s12, s13, s14, s15, s16⟩
    go_simp
    with_reducible rfl
  rotate_left
  · simp only [Act.put, List.setIfInBounds_toArray, List.set_cons_zero, List.set_cons_succ, i64_w, i32_w]
    rfl
  refine take_ (i := 17) (N := some 57) (v := ?_) (a' := ?_) #[true, true, true, true, true, true, true, true, true, true, true, true, true, true, true, true, true, true, false, false, false, false] rfl rfl (by kernel_rfl) (fun _ _ _ h => h) (Or.inl ⟨by rfl, ?_⟩) hHeld ?_ ?_
  rotate_left
  · rintro w' ⟨s0, s1, s2, s3, s4, s5, s6, s7, s8, s9, s10, s11, s12, s13, s14, s15, s16⟩
    go_simp
    with_reducible rfl
  rotate_left
  · simp only [Act.put, List.setIfInBounds_toArray, List.set_cons_zero, List.set_cons_succ, i64_w, i32_w]
    rfl
  refine take_ (i := 18) (N := some 58) (v := ?_) (a' := ?_) #[true, true, true, true, true, true, true, true, true, true, true, true, true, true, true, true, true, true, true, false, false, false] rfl rfl (by kernel_rfl) (fun _ _ _ h => h) (Or.inl ⟨by rfl, ?_⟩) hHeld ?_ ?_
  rotate_left
  · rintro w' ⟨s0, s1, s2, s3, s4, s5, s6, s7, s8, s9, s10, s11, s12, s13, s14, s15, s16⟩
    go_simp
    with_reducible rfl
  rotate_left
  · simp only [Act.put, List.setIfInBounds_toArray, List.set_cons_zero, List.set_cons_succ, i64_w, i32_w]
    rfl
  refine take_ (i := 19) (N := some 59) (v := ?_) (a' := ?_) #[true, true, true, true, true, true, true, true, true, true, true, true, true, true, true, true, true, true, true, true, false, false] rfl rfl (by kernel_rfl) (fun _ _ _ h => h) (Or.inl ⟨by rfl, ?_⟩) hHeld ?_ ?_
  rotate_left
  · rintro w' ⟨s0, s1, s2, s3, s4, s5, s6, s7, s8, s9, s10, s11, s12, s13, s14, s15, s16⟩
    go_simp
    with_reducible rfl
  rotate_left
  · simp only [Act.put, List.setIfInBounds_toArray, List.set_cons_zero, List.set_cons_succ, i64_w, i32_w]
    rfl
  refine take_ (i := 20) (N := some 60) (v := ?_) (a' := ?_) #[true, true, true, true, true, true, true, true, true, true, true, true, true, true, true, true, true, true, true, true, true, false] rfl rfl (by kernel_rfl) (fun _ _ _ h => h) (Or.inl ⟨by rfl, ?_⟩) hHeld ?_ ?_
  rotate_left
  · rintro w' ⟨s0, s1, s2, s3, s4, s5, s6, s7, s8, s9, s10, s11, s12, s13, s14, s15, s16⟩
    go_simp
    with_reducible rfl
  rotate_left
  · simp only [Act.put, List.setIfInBounds_toArray, List.set_cons_zero, List.set_cons_succ, i64_w, i32_w]
    rfl
  refine take_ (i := 21) (N := some 2) (v := ?_) (a' := ?_) #[true, true, true, true, true, true, true, true, true, true, true, true, true, true, true, true, true, true, true, true, true, true] rfl rfl (by kernel_rfl) (fun _ _ _ h => h) (Or.inl ⟨by rfl, ?_⟩) hHeld ?_ ?_
  rotate_left
  · rintro w' ⟨s0, s1, s2, s3, s4, s5, s6, s7, s8, s9, s10, s11, s12, s13, s14, s15, s16⟩
    go_simp
    with_reducible rfl
  rotate_left
  · simp only [Act.put, List.setIfInBounds_toArray, List.set_cons_zero, List.set_cons_succ, i64_w, i32_w]
    rfl
  refine done_ (by kernel_rfl) ?_
  try go_wp2
  go_ret
  exact ⟨rfl, HB11.out⟩
end Go.Proofs.Ytmiemfgcggkbnaa.QG
