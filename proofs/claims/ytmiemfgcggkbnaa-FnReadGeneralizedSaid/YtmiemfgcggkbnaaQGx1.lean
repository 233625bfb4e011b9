-- Written by a program of this work (wip/patch_print.py) for this claim.
import Derived.Test.YtmiemfgcggkbnaaQGx0
namespace Go.Proofs.Ytmiemfgcggkbnaa.QG
open Go.RowKit Go.Proofs.YtmiemfgcggkbnaaW.PrintWords Go.Proofs.YtmiemfgcggkbnaaW.PrintLast Go.Proofs.YtmiemfgcggkbnaaW.PrintMore
attribute [local go_sem] max2_int min2_int max_two min_two max_three min_three max_four min_four   -- for this text's walks alone
set_option linter.unusedVariables false
set_option linter.unusedSimpArgs false

/-! ### laws_clock: function 27 -/
def laws_clock.f (a0_0 : Int) (a0_1 : Int) (a0_2 : Int) (a0_3 : Int) (a0_4 : Int) (a0_5 : Int) (a0_6 : Int) (a0_7 : Int) : Option (Int × Int × Int × Int × Int × Int × Int × Int) := some (a0_0, a0_1, a0_2, a0_3, a0_4, a0_5, a0_6, a0_7)
set_option maxHeartbeats 8000000 in
set_option maxRecDepth 100000 in
theorem laws_clock.calls (a0_0 : Int) (a0_1 : Int) (a0_2 : Int) (a0_3 : Int) (a0_4 : Int) (a0_5 : Int) (a0_6 : Int) (a0_7 : Int) (r1 : Int) (r2 : Int) (r3 : Int) (r4 : Int) (r5 : Int) (r6 : Int) (r7 : Int) (r8 : Int) (w : World) (h : laws_clock.f a0_0 a0_1 a0_2 a0_3 a0_4 a0_5 a0_6 a0_7 = some (r1, r2, r3, r4, r5, r6, r7, r8)) :
    Calls Try.prog 27 #[.agg #[.int .i64 a0_0, .int .i64 a0_1, .int .i64 a0_2, .int .i64 a0_3, .int .i64 a0_4, .int .i64 a0_5, .int .i64 a0_6, .int .i64 a0_7]] w fun e w' => e = .returned (.agg #[.int .i64 r1, .int .i64 r2, .int .i64 r3, .int .i64 r4, .int .i64 r5, .int .i64 r6, .int .i64 r7, .int .i64 r8]) ∧ Below w.heap.size w w' := by
  have hu44 := Try.underlying44
  have hu47 := Try.underlying47
  have HB := Aside0.mk (Below.refl w.heap.size w)
  have H : (some (a0_0, a0_1, a0_2, a0_3, a0_4, a0_5, a0_6, a0_7)) = some (r1, r2, r3, r4, r5, r6, r7, r8) := h
  clear h
  simp only [Option.some.injEq, Prod.mk.injEq] at H
  obtain ⟨rfl, rfl, rfl, rfl, rfl, rfl, rfl, rfl⟩ := H
  go_enter Try.func27, Try.ntmps27
  go_wp2_with (first | ((with_reducible refine gate_dst (N := 1) rfl ?_); refine box_event ?hg (N := 1) ?hd (cs := #[.int .i64 a0_0, .int .i64 a0_1, .int .i64 a0_2, .int .i64 a0_3, .int .i64 a0_4, .int .i64 a0_5, .int .i64 a0_6, .int .i64 a0_7]) (t := 44) ?hr ?_; (case hd => rfl); (case hg => rfl); (case hr => first | (go_simp; done) | (go_simp; rfl)); intro gb101 hg w2 hbox hb; have n0_ := Aside0.mk (below_step (by repeat (first | (with_reducible first | exact HB.out | apply below_alloc | apply pw_below_drewN | apply below_drew1) | exact HB.out)) hb); have n1_ := Aside0.mk (hbox); have n2_ := Aside0.mk ((by rw [hg]; exact (below_size (by repeat (first | (with_reducible first | exact HB.out | apply below_alloc | apply pw_below_drewN | apply below_drew1) | exact HB.out))) : w.heap.size ≤ gb101)); have n3_ := Aside0.mk ((by rw [hg]; exact (below_size (by repeat (first | (with_reducible first | exact HB.out | apply below_alloc | apply pw_below_drewN | apply below_drew1) | exact HB.out))) : w.heap.size ≤ gb101)); clear HB; have HB := n0_; have BK101 := n1_; have GW101 := n2_; have GE101 := n3_; clear n0_ n1_ n2_ n3_; clear hb hbox hg) | ((with_reducible refine gate_dst (N := 2) rfl ?_); refine box_event ?hg (N := 2) ?hd (cs := #[.int .i64 0, .int .i64 0, .int .i64 0, .int .i64 0, .int .i64 0, .int .i64 0, .int .i64 0, .int .i64 0]) (t := 47) ?hr ?_; (case hd => rfl); (case hg => rfl); (case hr => first | (go_simp; done) | (go_simp; rfl)); intro gb102 hg w3 hbox hb; have n0_ := Aside0.mk (blk_below (g := gb101) (o := .cells #[.int .i64 a0_0, .int .i64 a0_1, .int .i64 a0_2, .int .i64 a0_3, .int .i64 a0_4, .int .i64 a0_5, .int .i64 a0_6, .int .i64 a0_7] 44 (0, 0)) (by (with_reducible repeat (first | refine blk_drewN ?_ _ | refine blk_drew ?_ | refine blk_alloc ?_ _)); exact BK101.out) hb); have n1_ := Aside0.mk (below_step (by repeat (first | (with_reducible first | exact HB.out | apply below_alloc | apply pw_below_drewN | apply below_drew1 | refine below_set ?_ GE101.out) | exact HB.out)) hb); have n2_ := Aside0.mk (hbox); have n3_ := Aside0.mk ((by rw [hg]; exact (below_size (by repeat (first | (with_reducible first | exact HB.out | apply below_alloc | apply pw_below_drewN | apply below_drew1 | refine below_set ?_ GE101.out) | exact HB.out))) : w.heap.size ≤ gb102)); have n4_ := Aside0.mk ((by rw [hg]; exact (below_size (by repeat (first | (with_reducible first | exact HB.out | apply below_alloc | apply pw_below_drewN | apply below_drew1 | refine below_set ?_ GE101.out) | exact HB.out))) : w.heap.size ≤ gb102)); have n5_ := Aside0.mk ((by rw [hg]; exact Nat.ne_of_lt (blk_lt (g := gb101) (o := .cells #[.int .i64 a0_0, .int .i64 a0_1, .int .i64 a0_2, .int .i64 a0_3, .int .i64 a0_4, .int .i64 a0_5, .int .i64 a0_6, .int .i64 a0_7] 44 (0, 0)) (by (with_reducible repeat (first | refine blk_drewN ?_ _ | refine blk_drew ?_ | refine blk_alloc ?_ _)); exact BK101.out)) : gb101 ≠ gb102)); have n6_ := Aside0.mk ((by rw [hg]; exact Nat.ne_of_gt (blk_lt (g := gb101) (o := .cells #[.int .i64 a0_0, .int .i64 a0_1, .int .i64 a0_2, .int .i64 a0_3, .int .i64 a0_4, .int .i64 a0_5, .int .i64 a0_6, .int .i64 a0_7] 44 (0, 0)) (by (with_reducible repeat (first | refine blk_drewN ?_ _ | refine blk_drew ?_ | refine blk_alloc ?_ _)); exact BK101.out)) : gb102 ≠ gb101)); clear BK101; clear HB; have BK101 := n0_; have HB := n1_; have BK102 := n2_; have GW102 := n3_; have GE102 := n4_; have NB101_102 := n5_; have NB102_101 := n6_; clear n0_ n1_ n2_ n3_ n4_ n5_ n6_; clear hb hbox hg; have hnb4 := NB101_102.out; have hnc4 := NB102_101.out; have hcz5_0 : w3.cell? ⟨gb101, 0, none⟩ = some (.int .i64 a0_0) := (blk_cell BK101.out 0).trans rfl; have hcz5_1 : w3.cell? ⟨gb101, 1, none⟩ = some (.int .i64 a0_1) := (blk_cell BK101.out 1).trans rfl; have hcz5_2 : w3.cell? ⟨gb101, 2, none⟩ = some (.int .i64 a0_2) := (blk_cell BK101.out 2).trans rfl; have hcz5_3 : w3.cell? ⟨gb101, 3, none⟩ = some (.int .i64 a0_3) := (blk_cell BK101.out 3).trans rfl; have hcz5_4 : w3.cell? ⟨gb101, 4, none⟩ = some (.int .i64 a0_4) := (blk_cell BK101.out 4).trans rfl; have hcz5_5 : w3.cell? ⟨gb101, 5, none⟩ = some (.int .i64 a0_5) := (blk_cell BK101.out 5).trans rfl; have hcz5_6 : w3.cell? ⟨gb101, 6, none⟩ = some (.int .i64 a0_6) := (blk_cell BK101.out 6).trans rfl; have hcz5_7 : w3.cell? ⟨gb101, 7, none⟩ = some (.int .i64 a0_7) := (blk_cell BK101.out 7).trans rfl; have hfz5_0 := blk_frozen BK101.out 0; have hfz5_1 := blk_frozen BK101.out 1; have hfz5_2 := blk_frozen BK101.out 2; have hfz5_3 := blk_frozen BK101.out 3; have hfz5_4 := blk_frozen BK101.out 4; have hfz5_5 := blk_frozen BK101.out 5; have hfz5_6 := blk_frozen BK101.out 6; have hfz5_7 := blk_frozen BK101.out 7; have hcz6_0 : w3.cell? ⟨gb102, 0, none⟩ = some (.int .i64 0) := (blk_cell BK102.out 0).trans rfl; have hcz6_1 : w3.cell? ⟨gb102, 1, none⟩ = some (.int .i64 0) := (blk_cell BK102.out 1).trans rfl; have hcz6_2 : w3.cell? ⟨gb102, 2, none⟩ = some (.int .i64 0) := (blk_cell BK102.out 2).trans rfl; have hcz6_3 : w3.cell? ⟨gb102, 3, none⟩ = some (.int .i64 0) := (blk_cell BK102.out 3).trans rfl; have hcz6_4 : w3.cell? ⟨gb102, 4, none⟩ = some (.int .i64 0) := (blk_cell BK102.out 4).trans rfl; have hcz6_5 : w3.cell? ⟨gb102, 5, none⟩ = some (.int .i64 0) := (blk_cell BK102.out 5).trans rfl; have hcz6_6 : w3.cell? ⟨gb102, 6, none⟩ = some (.int .i64 0) := (blk_cell BK102.out 6).trans rfl; have hcz6_7 : w3.cell? ⟨gb102, 7, none⟩ = some (.int .i64 0) := (blk_cell BK102.out 7).trans rfl; have hfz6_0 := blk_frozen BK102.out 0; have hfz6_1 := blk_frozen BK102.out 1; have hfz6_2 := blk_frozen BK102.out 2; have hfz6_3 := blk_frozen BK102.out 3; have hfz6_4 := blk_frozen BK102.out 4; have hfz6_5 := blk_frozen BK102.out 5; have hfz6_6 := blk_frozen BK102.out 6; have hfz6_7 := blk_frozen BK102.out 7))
  refine bodyPost_ret (results_cell_row rfl _ _ gb102 47 #[.int .i64 a0_0, .int .i64 a0_1, .int .i64 a0_2, .int .i64 a0_3, .int .i64 a0_4, .int .i64 a0_5, .int .i64 a0_6, .int .i64 a0_7] (0, 0) _ rfl (by (with_reducible repeat (first | refine blk_drewN ?_ _ | refine blk_drew ?_ | refine blk_alloc ?_ _)); refine blk_put (cs := #[.int .i64 a0_0, .int .i64 a0_1, .int .i64 a0_2, .int .i64 a0_3, .int .i64 a0_4, .int .i64 a0_5, .int .i64 a0_6, .int .i64 0]) ?_ 7 _ rfl; (with_reducible repeat (first | refine blk_drewN ?_ _ | refine blk_drew ?_ | refine blk_alloc ?_ _)); refine blk_put (cs := #[.int .i64 a0_0, .int .i64 a0_1, .int .i64 a0_2, .int .i64 a0_3, .int .i64 a0_4, .int .i64 a0_5, .int .i64 0, .int .i64 0]) ?_ 6 _ rfl; (with_reducible repeat (first | refine blk_drewN ?_ _ | refine blk_drew ?_ | refine blk_alloc ?_ _)); refine blk_put (cs := #[.int .i64 a0_0, .int .i64 a0_1, .int .i64 a0_2, .int .i64 a0_3, .int .i64 a0_4, .int .i64 0, .int .i64 0, .int .i64 0]) ?_ 5 _ rfl; (with_reducible repeat (first | refine blk_drewN ?_ _ | refine blk_drew ?_ | refine blk_alloc ?_ _)); refine blk_put (cs := #[.int .i64 a0_0, .int .i64 a0_1, .int .i64 a0_2, .int .i64 a0_3, .int .i64 0, .int .i64 0, .int .i64 0, .int .i64 0]) ?_ 4 _ rfl; (with_reducible repeat (first | refine blk_drewN ?_ _ | refine blk_drew ?_ | refine blk_alloc ?_ _)); refine blk_put (cs := #[.int .i64 a0_0, .int .i64 a0_1, .int .i64 a0_2, .int .i64 0, .int .i64 0, .int .i64 0, .int .i64 0, .int .i64 0]) ?_ 3 _ rfl; (with_reducible repeat (first | refine blk_drewN ?_ _ | refine blk_drew ?_ | refine blk_alloc ?_ _)); refine blk_put (cs := #[.int .i64 a0_0, .int .i64 a0_1, .int .i64 0, .int .i64 0, .int .i64 0, .int .i64 0, .int .i64 0, .int .i64 0]) ?_ 2 _ rfl; (with_reducible repeat (first | refine blk_drewN ?_ _ | refine blk_drew ?_ | refine blk_alloc ?_ _)); refine blk_put (cs := #[.int .i64 a0_0, .int .i64 0, .int .i64 0, .int .i64 0, .int .i64 0, .int .i64 0, .int .i64 0, .int .i64 0]) ?_ 1 _ rfl; (with_reducible repeat (first | refine blk_drewN ?_ _ | refine blk_drew ?_ | refine blk_alloc ?_ _)); refine blk_put (cs := #[.int .i64 0, .int .i64 0, .int .i64 0, .int .i64 0, .int .i64 0, .int .i64 0, .int .i64 0, .int .i64 0]) ?_ 0 _ rfl; (with_reducible repeat (first | refine blk_drewN ?_ _ | refine blk_drew ?_ | refine blk_alloc ?_ _)); exact BK102.out) Try.underlying47 rfl (by kernel_rfl)) rfl ?_
  exact ⟨by first | rfl | (simp [errW_none, errW_some] <;> rfl) | (simp [*, errW_none, errW_some] <;> rfl), by repeat (first | (with_reducible first | exact HB.out | apply below_alloc | apply pw_below_drewN | apply below_drew1 | refine below_set ?_ GE101.out | refine below_set ?_ GE102.out) | exact HB.out)⟩

section
open Go.BigFrame
set_option linter.unusedSimpArgs false
theorem add_zero_ (a : Addr) : a.add 0 = a := by
  unfold Addr.add
  rfl
theorem grown_set (w : World) (g j : Nat) (v : Value) : w.grownBy (w.setCell ⟨g, j, none⟩ v) (some g) := ⟨rfl, rfl, rfl, by simp, fun i hi hne => Below.heap_setCell w _ v i (fun h => hne (by rw [h]))⟩
/-- A struct of eight numbers written whole. -/
def put8 (w : World) (g : Nat) (v0 v1 v2 v3 v4 v5 v6 v7 : Value) : World := (((((((w.setCell ⟨g, 0, none⟩ v0).setCell ⟨g, 1, none⟩ v1).setCell ⟨g, 2, none⟩ v2).setCell ⟨g, 3, none⟩ v3).setCell ⟨g, 4, none⟩ v4).setCell ⟨g, 5, none⟩ v5).setCell ⟨g, 6, none⟩ v6).setCell ⟨g, 7, none⟩ v7
theorem put8_blk {w : World} {g t : Nat} {u0 u1 u2 u3 u4 u5 u6 u7 : Value} (h : w.heap[g]? = some (.cells #[u0, u1, u2, u3, u4, u5, u6, u7] t (0, 0))) (v0 v1 v2 v3 v4 v5 v6 v7 : Value) : (put8 w g v0 v1 v2 v3 v4 v5 v6 v7).heap[g]? = some (.cells #[v0, v1, v2, v3, v4, v5, v6, v7] t (0, 0)) := by
  unfold put8
  refine blk_put (cs := #[v0, v1, v2, v3, v4, v5, v6, u7]) ?_ 7 v7 rfl
  refine blk_put (cs := #[v0, v1, v2, v3, v4, v5, u6, u7]) ?_ 6 v6 rfl
  refine blk_put (cs := #[v0, v1, v2, v3, v4, u5, u6, u7]) ?_ 5 v5 rfl
  refine blk_put (cs := #[v0, v1, v2, v3, u4, u5, u6, u7]) ?_ 4 v4 rfl
  refine blk_put (cs := #[v0, v1, v2, u3, u4, u5, u6, u7]) ?_ 3 v3 rfl
  refine blk_put (cs := #[v0, v1, u2, u3, u4, u5, u6, u7]) ?_ 2 v2 rfl
  refine blk_put (cs := #[v0, u1, u2, u3, u4, u5, u6, u7]) ?_ 1 v1 rfl
  refine blk_put (cs := #[u0, u1, u2, u3, u4, u5, u6, u7]) ?_ 0 v0 rfl
  exact h
theorem put8_grown (w : World) (g : Nat) (v0 v1 v2 v3 v4 v5 v6 v7 : Value) : w.grownBy (put8 w g v0 v1 v2 v3 v4 v5 v6 v7) (some g) :=
  (((((((grown_set w g 0 v0).trans (grown_set _ g 1 v1)).trans (grown_set _ g 2 v2)).trans (grown_set _ g 3 v3)).trans (grown_set _ g 4 v4)).trans (grown_set _ g 5 v5)).trans (grown_set _ g 6 v6)).trans (grown_set _ g 7 v7)
/-- A time as cells. -/
def tm (y mo d h mi s na a : Int) : Obj := .cells #[.int .i64 y, .int .i64 mo, .int .i64 d, .int .i64 h, .int .i64 mi, .int .i64 s, .int .i64 na, .int .i64 a] 44 (0, 0)
theorem app_cons_ {α : Type} (x : α) (l m : List α) : (x :: l).append m = x :: l.append m := rfl
theorem app_nil_ {α : Type} (m : List α) : ([] : List α).append m = m := rfl
/-- A drawn region that only reads, whose order was looked at once. -/
theorem wp_quiet_of {P : Program} {id : Nat} {Q : Exit → Act → World → Prop} {a : Act} {w : World} {l : List Oper} {ops0 : Array Oper} (hm : P.follows .mixedOrders = true) (e : ops0 = l.toArray) (hB : Region.lexB .any ops0 = true)
    (h : wpQuiet P l.toArray (fun w' => ∃ n, w' = w.drewN n) (fun a' => ∀ w', (∃ n, w' = w.drewN n) → Q .normal a' w') l a) : (Code.region id l.toArray true).wp P Q a w :=
  wp_region_quiet_lit hm (by rw [← e]; exact hB) h
/-- The days of a month. -/
def daysI (y m : Int) : Int := if m = 4 ∨ m = 6 ∨ m = 9 ∨ m = 11 then 30 else if m = 2 then (if Int.tmod y 4 = 0 then (if Int.tmod y 100 = 0 then (if Int.tmod y 400 = 0 then 29 else 28) else 29) else 28) else 31
end


section
open Go.BigFrame
set_option linter.unusedSimpArgs false
/-- The scanner's state lies in block g: what is left of the bytes (a part of what came in, in w0), and whether all is well. -/
def Scan (w0 w : World) (g : Nat) (l : List Int) (ok : Bool) : Prop := ∃ A c, w.heap[g]? = some (.cells #[.slice A l.length c, .bool ok] 81 (0, 0)) ∧ Kd.C (Kd.int .u8) w0 A l.length l ∧ l.length ≤ c
/-- What a scanner's step leaves. -/
def ScanTo (w0 w : World) (g : Nat) (l : List Int) (ok : Bool) (v : Value) (e : Ending) (w' : World) : Prop := e = .returned v ∧ Scan w0 w' g l ok ∧ Below w0.heap.size w0 w' ∧ w.grownBy w' (some g)
def nextB (x : Int) : List Int → Bool
  | [] => false
  | y :: _ => y == x
def nextR (x : Int) : List Int → List Int
  | [] => []
  | y :: r => if y = x then r else y :: r


theorem cut_one25 (A : Option Addr) (n c : Nat) (h : 1 ≤ n) : ∀ W : World, (Instr.slice 25 (.slice A n c) (some (.int .i64 1)) none none).run Try.prog W = .ok (.slice (if c = 1 then A else A.map (·.add (1 * (Kd.int .u8).sz))) (n - 1) (c - 1)) W := by
  intro W
  obtain ⟨i0, hi0, _, hsz, _⟩ := info_parts info5
  have hel : Try.prog.elem 25 = 5 := by simp [Program.elem, Try.underlying25]
  have hu : Try.prog.underlying 25 = some (.slice (Try.prog.elem 25)) := by rw [hel]; exact Try.underlying25
  have := run_slice_l W 25 A n c hu .i64 (1 : Int) (by omega) (by omega)
  rw [this, hel]
  simp [sizeOf, typeInfo, hi0, hsz, sliced, Result.andThen, Kd.int, Kd.scalar]
theorem scan_at0 {w0 w : World} {A : Option Addr} {l : List Int} (hr : Kd.C (Kd.int .u8) w0 A l.length l) (hB : Below w0.heap.size w0 w) (i : Int) (h0 : 0 ≤ i) (h : i < (l.length : Int)) : ∃ ad, A = some ad ∧ w.cell? (ad.add i.toNat) = some (.int .u8 (rd l i)) := by
  obtain ⟨ad, e, hc⟩ := Kd.at_int (Kd.C_below hr hB) i h0 h
  exact ⟨ad, e, hc⟩
set_option maxHeartbeats 4000000 in
theorem next_nil (g : Nat) (x : Int) (ok : Bool) (w0 w : World) (hs : Scan w0 w g [] ok) (hB : Below w0.heap.size w0 w) :
    Calls Try.prog 56 #[.pointer (some ⟨g, 0, none⟩), .int .u8 x] w (ScanTo w0 w g [] ok (.bool false)) := by
  obtain ⟨A, c, hb, hr, hc⟩ := hs
  have c0 := (blk_cell hb 0).trans (show _ = some (.slice A 0 c) from rfl)
  have c1 := (blk_cell hb 1).trans (show _ = some (.bool ok) from rfl)
  have f0 := blk_frozen hb 0
  have f1 := blk_frozen hb 1
  have HB := Aside0.mk hB
  have BK := Aside0.mk hb
  have HR := Aside0.mk hr
  have HC := Aside0.mk hc
  clear hb hr hc hB
  go_enter Try.func56, Try.ntmps56
  go_wp2
  go_ret
  exact ⟨rfl, ⟨A, c, BK.out, HR.out, HC.out⟩, HB.out, World.grownBy.refl _ _⟩
set_option maxHeartbeats 4000000 in
theorem next_no (g : Nat) (x : Int) (ok : Bool) (l : List Int) (w0 w : World) (h0 : 0 < l.length) (hx : (rd l 0 == x) = false) (hs : Scan w0 w g l ok) (hB : Below w0.heap.size w0 w) :
    Calls Try.prog 56 #[.pointer (some ⟨g, 0, none⟩), .int .u8 x] w (ScanTo w0 w g l ok (.bool false)) := by
  obtain ⟨A, c, hb, hr, hc⟩ := hs
  have c0 := (blk_cell hb 0).trans (show _ = some (.slice A l.length c) from rfl)
  have c1 := (blk_cell hb 1).trans (show _ = some (.bool ok) from rfl)
  have f0 := blk_frozen hb 0
  have f1 := blk_frozen hb 1
  have HB := Aside0.mk hB
  have BK := Aside0.mk hb
  have HR := Aside0.mk hr
  have HC := Aside0.mk hc
  obtain ⟨ad, rfl, hx0⟩ := scan_at0 hr hB 0 (by omega) (by omega)
  have t1 : ((l.length : Int) == 0) = false := beq_eq_false_iff_ne.mpr (by omega)
  have t2 : (0 : Int) < (l.length : Int) := by omega
  have t3 : (rd l 0 != x) = true := by rw [bne, hx]; rfl
  have t4 : ¬ (l = []) := by rintro rfl; simp at h0
  rw [show (0 : Int).toNat = 0 from rfl, add_zero_] at hx0
  clear hb hr hc hB h0
  go_enter Try.func56, Try.ntmps56
  go_wp2
  go_ret
  exact ⟨rfl, ⟨_, c, BK.out, HR.out, HC.out⟩, HB.out, World.grownBy.refl _ _⟩
set_option maxHeartbeats 4000000 in
theorem next_yes (g : Nat) (x : Int) (ok : Bool) (l : List Int) (w0 w : World) (h0 : 0 < l.length) (hx : rd l 0 = x) (hg : w0.heap.size ≤ g) (hs : Scan w0 w g l ok) (hB : Below w0.heap.size w0 w) :
    Calls Try.prog 56 #[.pointer (some ⟨g, 0, none⟩), .int .u8 x] w (ScanTo w0 w g (l.drop 1) ok (.bool true)) := by
  obtain ⟨A, c, hb, hr, hc⟩ := hs
  have c0 := (blk_cell hb 0).trans (show _ = some (.slice A l.length c) from rfl)
  have c1 := (blk_cell hb 1).trans (show _ = some (.bool ok) from rfl)
  have f0 := blk_frozen hb 0
  have f1 := blk_frozen hb 1
  have HB := Aside0.mk hB
  have BK := Aside0.mk hb
  have HR := Aside0.mk hr
  have HC := Aside0.mk hc
  obtain ⟨ad, rfl, hx0⟩ := scan_at0 hr hB 0 (by omega) (by omega)
  rw [hx] at hx0
  obtain ⟨A1, hA1, hcut⟩ : ∃ A1, A1 = (if c = 1 then some ad else (some ad).map (·.add (1 * (Kd.int .u8).sz))) ∧ ∀ W : World, (Instr.slice 25 (.slice (some ad) l.length c) (some (.int .i64 1)) none none).run Try.prog W = .ok (.slice A1 (l.length - 1) (c - 1)) W := ⟨_, rfl, cut_one25 (some ad) l.length c (by omega)⟩
  have HA := Aside0.mk hA1
  have t1 : ((l.length : Int) == 0) = false := beq_eq_false_iff_ne.mpr (by omega)
  have t2 : (0 : Int) < (l.length : Int) := by omega
  have t3 : (x != x) = false := by simp
  have t4 : ¬ (l = []) := by rintro rfl; simp at h0
  have H0 := Aside0.mk h0
  have HG := Aside0.mk hg
  rw [show (0 : Int).toNat = 0 from rfl, add_zero_] at hx0
  clear hb hr hc hB h0 hx hA1 hg
  go_enter Try.func56, Try.ntmps56
  go_wp2
  go_ret
  refine ⟨rfl, ⟨A1, c - 1, ?_, ?_, ?_⟩, ?_, ?_⟩
  · rw [List.length_drop]; exact blk_put BK.out 0 _ rfl
  · rw [HA.out]; exact Kd.C_drop HR.out (by have := H0.out; omega) HC.out
  · rw [List.length_drop]; have := HC.out; omega
  · exact below_set HB.out HG.out
  · exact grown_set _ _ _ _
def figV (l : List Int) : Int := l.foldl (fun v c => 10 * v + c - 48) 0
def figD (l : List Int) : Bool := l.all (fun c => decide (48 ≤ c) && decide (c ≤ 57))
def bytesIn (l : List Int) : Prop := ∀ x, x ∈ l → 0 ≤ x ∧ x ≤ 255
theorem bytesIn_rd {l : List Int} (h : bytesIn l) (k : Nat) (hk : k < l.length) : 0 ≤ rd l (k : Int) ∧ rd l (k : Int) ≤ 255 := by
  unfold rd
  rw [Int.toNat_natCast, List.getD_eq_getElem?_getD, List.getElem?_eq_getElem hk]
  exact h _ (List.getElem_mem hk)
theorem rd_take (l : List Int) (k : Nat) (hk : k < l.length) : l.take (k + 1) = l.take k ++ [rd l (k : Int)] := by
  rw [List.take_succ_eq_append_getElem hk]
  unfold rd
  rw [Int.toNat_natCast, List.getD_eq_getElem?_getD, List.getElem?_eq_getElem hk]
  rfl
theorem figV_snoc (l : List Int) (c : Int) : figV (l ++ [c]) = 10 * figV l + c - 48 := by
  unfold figV
  rw [List.foldl_append]
  rfl
theorem figD_snoc (l : List Int) (c : Int) : figD (l ++ [c]) = (figD l && (decide (48 ≤ c) && decide (c ≤ 57))) := by
  unfold figD
  rw [List.all_append]
  simp
theorem figV_bound {l : List Int} (h : bytesIn l) : ∀ k, k ≤ l.length → -(23 * (10 ^ k - 1)) ≤ figV (l.take k) ∧ figV (l.take k) ≤ 23 * (10 ^ k - 1)
  | 0, _ => by simp [figV]
  | k + 1, hk => by
    have ih := figV_bound h k (by omega)
    have hx := bytesIn_rd h k (by omega)
    rw [rd_take l k (by omega), figV_snoc, Int.pow_succ]
    omega
theorem figV_small {l : List Int} (h : bytesIn l) (k : Nat) (hk : k ≤ l.length) (h4 : k ≤ 4) : -300000 ≤ figV (l.take k) ∧ figV (l.take k) ≤ 300000 := by
  have := figV_bound h k hk
  have h10 : (10 : Int) ^ k ≤ 10000 := by
    rcases (by omega : k = 0 ∨ k = 1 ∨ k = 2 ∨ k = 3 ∨ k = 4) with rfl | rfl | rfl | rfl | rfl <;> decide
  omega
theorem cut_h25 (A : Option Addr) (n c : Nat) (j : Nat) (hm : j ≤ n) (hc : n ≤ c) : ∀ W : World, (Instr.slice 25 (.slice A n c) none (some (.int .i64 (j : Int))) none).run Try.prog W = .ok (.slice A j c) W := by
  intro W
  obtain ⟨i0, hi0, _, hsz, _⟩ := info_parts info5
  have h := cut_to 25 5 .i64 Try.underlying25 hi0 A n c (j : Int) (by omega) (by omega) hc W
  simpa using h
theorem cut_l25 (A : Option Addr) (n c : Nat) (j : Nat) (hm : j ≤ n) : ∀ W : World, (Instr.slice 25 (.slice A n c) (some (.int .i64 (j : Int))) none none).run Try.prog W = .ok (.slice (if c = j then A else A.map (·.add (j * (Kd.int .u8).sz))) (n - j) (c - j)) W := by
  intro W
  obtain ⟨i0, hi0, _, hsz, _⟩ := info_parts info5
  have h := cut_from 25 5 .i64 Try.underlying25 hi0 1 hsz A n c (j : Int) (by omega) (by omega) W
  rw [h]
  simp [Kd.int, Kd.scalar]
set_option maxHeartbeats 4000000 in
theorem figures_short (g n : Nat) (ok : Bool) (l : List Int) (w0 w : World) (hn : l.length < n) (h4 : n ≤ 4) (hg : w0.heap.size ≤ g) (hs : Scan w0 w g l ok) (hB : Below w0.heap.size w0 w) :
    Calls Try.prog 51 #[.pointer (some ⟨g, 0, none⟩), .int .i64 (n : Int)] w (ScanTo w0 w g l false (.int .i64 0)) := by
  obtain ⟨A, c, hb, hr, hc⟩ := hs
  have c0 := (blk_cell hb 0).trans (show _ = some (.slice A l.length c) from rfl)
  have c1 := (blk_cell hb 1).trans (show _ = some (.bool ok) from rfl)
  have f0 := blk_frozen hb 0
  have f1 := blk_frozen hb 1
  have HB := Aside0.mk hB
  have BK := Aside0.mk hb
  have HR := Aside0.mk hr
  have HC := Aside0.mk hc
  have HG := Aside0.mk hg
  have t1 : decide (l.length < n) = true := decide_eq_true hn
  clear hb hr hc hB hg hn h4
  go_enter Try.func51, Try.ntmps51
  go_wp2
  go_ret
  exact ⟨rfl, ⟨A, c, blk_put BK.out 1 _ rfl, HR.out, HC.out⟩, below_set HB.out HG.out, grown_set _ _ _ _⟩
def FigAt (w0 w : World) (g : Nat) (A : Option Addr) (n c : Nat) (ok : Bool) (wr : World) : Prop := wr.heap[g]? = some (.cells #[.slice A n c, .bool ok] 81 (0, 0)) ∧ Below w0.heap.size w0 wr ∧ w.grownBy wr (some g)
set_option maxHeartbeats 8000000 in
theorem figures_long (g n : Nat) (ok : Bool) (l : List Int) (w0 w : World) (hn : n ≤ l.length) (h4 : n ≤ 4) (hby : bytesIn l) (hg : w0.heap.size ≤ g) (hs : Scan w0 w g l ok) (hB : Below w0.heap.size w0 w) :
    Calls Try.prog 51 #[.pointer (some ⟨g, 0, none⟩), .int .i64 (n : Int)] w (ScanTo w0 w g (l.drop n) (ok && figD (l.take n)) (.int .i64 (figV (l.take n)))) := by
  obtain ⟨A, c, hb, hr, hc⟩ := hs
  have c0 := (blk_cell hb 0).trans (show _ = some (.slice A l.length c) from rfl)
  have c1 := (blk_cell hb 1).trans (show _ = some (.bool ok) from rfl)
  have f0 := blk_frozen hb 0
  have f1 := blk_frozen hb 1
  have HB := Aside0.mk hB
  have BK := Aside0.mk hb
  have HR := Aside0.mk hr
  have HC := Aside0.mk hc
  have HG := Aside0.mk hg
  have HY := Aside0.mk hby
  have hcut := cut_h25 A l.length c n hn hc
  have t1 : decide (l.length < n) = false := decide_eq_false (by omega)
  have hl9 : l.length ≤ 9223372036854775807 := Kd.C_max hr
  clear hb hr hc hB hg hby
  go_enter Try.func51, Try.ntmps51
  go_wp2
  go_loopw [5, 25] (fun v i wr => ∃ k : Nat, k ≤ n ∧ i = .int .i64 (k : Int) ∧ v = .int .i64 (figV (l.take k)) ∧ FigAt w0 w g A l.length c (ok && figD (l.take k)) wr) (fun _ i _ => n - (intOf i).toNat)
  case atStart => exact ⟨0, Nat.zero_le _, rfl, rfl, by simpa [figD] using BK.out, HB.out, World.grownBy.refl _ _⟩
  case round =>
    obtain ⟨k, hk, rfl, rfl, hb, hB, hgr⟩ := hrel
    clear c0 c1 f0 f1
    have c0 := (blk_cell hb 0).trans (show _ = some (.slice A l.length c) from rfl)
    have c1 := (blk_cell hb 1).trans (show _ = some (.bool (ok && figD (l.take k))) from rfl)
    have f0 := blk_frozen hb 0
    have f1 := blk_frozen hb 1
    by_cases hlt : k < n
    · obtain ⟨ad, rfl, hx⟩ := scan_at0 HR.out hB (k : Int) (by omega) (by omega)
      rw [Int.toNat_natCast] at hx
      have hr := bytesIn_rd HY.out k (by omega)
      have hv := figV_small HY.out k (by omega) (by omega)
      have RT := Aside0.mk (rd_take l k (by omega))
      have HBk := Aside0.mk hb
      have HBr := Aside0.mk hB
      have HGr := Aside0.mk hgr
      obtain ⟨x, hxe⟩ : ∃ x, x = rd l (k : Int) := ⟨_, rfl⟩
      obtain ⟨v, hve⟩ : ∃ v, v = figV (l.take k) := ⟨_, rfl⟩
      obtain ⟨o, hoe⟩ : ∃ o, o = (ok && figD (l.take k)) := ⟨_, rfl⟩
      rw [← hxe] at hx hr
      rw [← hve] at hv ⊢
      rw [← hoe] at c1 HBk
      have EX := Aside0.mk hxe
      have EV := Aside0.mk hve
      have EO := Aside0.mk hoe
      clear hb hB hgr hxe hve hoe
      obtain ⟨b, hbe⟩ : ∃ b, b = (decide (48 ≤ x) && decide (x ≤ 57)) := ⟨_, rfl⟩
      rcases (by omega : x < 48 ∨ (48 ≤ x ∧ x ≤ 57) ∨ 57 < x) with h | ⟨h, h'⟩ | h
      · obtain rfl : b = false := by rw [hbe]; simp; omega
        have EB := Aside0.mk hbe
        clear hbe
        cases o
        all_goals
          go_wp2
          go_roundw
          case rel => exact ⟨k + 1, by omega, by go_num, by rw [RT.out, figV_snoc, ← EX.out, ← EV.out], by
            rw [RT.out, figD_snoc, ← Bool.and_assoc, ← EO.out, ← EX.out, ← EB.out]
            exact blk_put HBk.out 1 _ rfl, below_set HBr.out HG.out, HGr.out.trans (grown_set _ _ _ _)⟩
          case measure => simp [intOf]; omega
      · obtain rfl : b = true := by rw [hbe]; simp; omega
        have EB := Aside0.mk hbe
        clear hbe
        cases o
        all_goals
          go_wp2
          go_roundw
          case rel => exact ⟨k + 1, by omega, by go_num, by rw [RT.out, figV_snoc, ← EX.out, ← EV.out], by
            rw [RT.out, figD_snoc, ← Bool.and_assoc, ← EO.out, ← EX.out, ← EB.out]
            exact blk_put HBk.out 1 _ rfl, below_set HBr.out HG.out, HGr.out.trans (grown_set _ _ _ _)⟩
          case measure => simp [intOf]; omega
      · obtain rfl : b = false := by rw [hbe]; simp; omega
        have hd57 : decide (x ≤ 57) = false := decide_eq_false (by omega)
        have EB := Aside0.mk hbe
        clear hbe
        cases o
        all_goals
          go_wp2
          go_roundw
          case rel => exact ⟨k + 1, by omega, by go_num, by rw [RT.out, figV_snoc, ← EX.out, ← EV.out], by
            rw [RT.out, figD_snoc, ← Bool.and_assoc, ← EO.out, ← EX.out, ← EB.out]
            exact blk_put HBk.out 1 _ rfl, below_set HBr.out HG.out, HGr.out.trans (grown_set _ _ _ _)⟩
          case measure => simp [intOf]; omega
    · obtain rfl : k = n := by omega
      obtain ⟨A1, hA1, hcut1⟩ : ∃ A1, A1 = (if c = k then A else A.map (·.add (k * (Kd.int .u8).sz))) ∧ ∀ W : World, (Instr.slice 25 (.slice A l.length c) (some (.int .i64 (k : Int))) none none).run Try.prog W = .ok (.slice A1 (l.length - k) (c - k)) W := ⟨_, rfl, cut_l25 A l.length c k hn⟩
      have HA := Aside0.mk hA1
      have HBk := Aside0.mk hb
      have HBr := Aside0.mk hB
      have HGr := Aside0.mk hgr
      clear hb hB hgr hA1
      go_wp2
      go_ret
      refine ⟨rfl, ⟨A1, c - k, ?_, ?_, ?_⟩, ?_, ?_⟩
      · rw [List.length_drop]; exact blk_put HBk.out 0 _ rfl
      · rw [HA.out]; exact Kd.C_drop HR.out hn HC.out
      · rw [List.length_drop]; have := HC.out; omega
      · exact below_set HBr.out HG.out
      · exact HGr.out.trans (grown_set _ _ _ _)
def figN (n : Nat) (l : List Int) : Int := if l.length < n then 0 else figV (l.take n)
def figL (n : Nat) (l : List Int) : List Int := if l.length < n then l else l.drop n
def figO (n : Nat) (l : List Int) : Bool := if l.length < n then false else figD (l.take n)
theorem bytesIn_drop {l : List Int} (h : bytesIn l) (n : Nat) : bytesIn (l.drop n) := fun x hx => h x (List.mem_of_mem_drop hx)
theorem bytesIn_figL {l : List Int} (h : bytesIn l) (n : Nat) : bytesIn (figL n l) := by
  unfold figL
  split
  · exact h
  · exact bytesIn_drop h n
theorem figN_small {l : List Int} (h : bytesIn l) (n : Nat) (h4 : n ≤ 4) : -300000 ≤ figN n l ∧ figN n l ≤ 300000 := by
  unfold figN
  split
  · omega
  · exact figV_small h n (by omega) h4
theorem figures_any (g n : Nat) (ok : Bool) (l : List Int) (w0 w : World) (h4 : n ≤ 4) (hby : bytesIn l) (hg : w0.heap.size ≤ g) (hs : Scan w0 w g l ok) (hB : Below w0.heap.size w0 w) :
    Calls Try.prog 51 #[.pointer (some ⟨g, 0, none⟩), .int .i64 (n : Int)] w (ScanTo w0 w g (figL n l) (ok && figO n l) (.int .i64 (figN n l))) := by
  by_cases h : l.length < n
  · have := figures_short g n ok l w0 w h h4 hg hs hB
    simpa [figL, figN, figO, h] using this
  · have := figures_long g n ok l w0 w (by omega) h4 hby hg hs hB
    simpa [figL, figN, figO, h] using this
theorem figures_2 (g : Nat) (ok : Bool) (l : List Int) (w0 w : World) (hby : bytesIn l) (hg : w0.heap.size ≤ g) (hs : Scan w0 w g l ok) (hB : Below w0.heap.size w0 w) :
    Calls Try.prog 51 #[.pointer (some ⟨g, 0, none⟩), .int .i64 2] w (ScanTo w0 w g (figL 2 l) (ok && figO 2 l) (.int .i64 (figN 2 l))) := figures_any g 2 ok l w0 w (by omega) hby hg hs hB
theorem next_any_no (g : Nat) (x : Int) (ok : Bool) (l : List Int) (w0 w : World) (hx : nextB x l = false) (hs : Scan w0 w g l ok) (hB : Below w0.heap.size w0 w) :
    Calls Try.prog 56 #[.pointer (some ⟨g, 0, none⟩), .int .u8 x] w (ScanTo w0 w g l ok (.bool false)) := by
  cases l with
  | nil => exact next_nil g x ok w0 w hs hB
  | cons y r => exact next_no g x ok (y :: r) w0 w (by simp) hx hs hB
theorem next_any_yes (g : Nat) (x : Int) (ok : Bool) (l : List Int) (w0 w : World) (hx : nextB x l = true) (hg : w0.heap.size ≤ g) (hs : Scan w0 w g l ok) (hB : Below w0.heap.size w0 w) :
    Calls Try.prog 56 #[.pointer (some ⟨g, 0, none⟩), .int .u8 x] w (ScanTo w0 w g (l.drop 1) ok (.bool true)) := by
  cases l with
  | nil => cases hx
  | cons y r => exact next_yes g x ok (y :: r) w0 w (by simp) (beq_iff_eq.mp hx : y = x) hg hs hB
theorem Scan_ok {w0 w : World} {g : Nat} {l : List Int} {ok : Bool} (hs : Scan w0 w g l ok) (b : Bool) : Scan w0 (w.setCell ⟨g, 1, none⟩ (.bool b)) g l b := by
  obtain ⟨A, c, hb, hr, hc⟩ := hs
  exact ⟨A, c, blk_put hb 1 _ rfl, hr, hc⟩
theorem Scan_cells {w0 w : World} {g : Nat} {l : List Int} {ok : Bool} (hs : Scan w0 w g l ok) : w.cell? ⟨g, 1, none⟩ = some (.bool ok) ∧ w.frozen? ⟨g, 1, none⟩ = false := by
  obtain ⟨A, c, hb, hr, hc⟩ := hs
  exact ⟨(blk_cell hb 1).trans rfl, blk_frozen hb 1⟩
theorem Scan_ok' {w0 w : World} {g : Nat} {l : List Int} {ok : Bool} (hs : Scan w0 w g l ok) (b b' : Bool) (e : b' = b) : Scan w0 (w.setCell ⟨g, 1, none⟩ (.bool b)) g l b' := e ▸ Scan_ok hs b
def ZoneTo (w0 w : World) (g : Nat) (l : List Int) (ok : Bool) (v : Int) (t : Bool) (e : Ending) (w' : World) : Prop := e = .returned (.tuple #[.int .i64 v, .bool t]) ∧ Scan w0 w' g l ok ∧ Below w0.heap.size w0 w' ∧ w.grownBy w' (some g)
set_option maxHeartbeats 4000000 in
theorem zone_z (g : Nat) (ok : Bool) (l : List Int) (w0 w : World) (hx : nextB 90 l = true) (hg : w0.heap.size ≤ g) (hs : Scan w0 w g l ok) (hB : Below w0.heap.size w0 w) :
    Calls Try.prog 52 #[.pointer (some ⟨g, 0, none⟩)] w (ZoneTo w0 w g (l.drop 1) ok 0 true) := by
  have HX := Aside0.mk hx
  have HG := Aside0.mk hg
  have HS := Aside0.mk hs
  have HB := Aside0.mk hB
  clear hx hg hs hB
  go_enter Try.func52, Try.ntmps52
  go_wp2_with (go_at_call 56; (with_reducible refine (next_any_yes g 90 ok l w0 w HX.out HG.out HS.out HB.out).mono ?_); rintro e w1 ⟨rfl, hs1, hb1, hg1⟩; have HS1 := Aside0.mk hs1; have HB1 := Aside0.mk hb1; have HG1 := Aside0.mk hg1; clear hs1 hb1 hg1)
  go_ret2
  exact ⟨rfl, HS1.out, HB1.out, HG1.out⟩
set_option maxHeartbeats 8000000 in
theorem zone_minus (g : Nat) (ok : Bool) (l : List Int) (h m : Int) (o5 : Bool) (l5 : List Int) (w0 w : World) (hx : nextB 90 l = false) (hx2 : nextB 45 l = true) (hby : bytesIn l) (eh : h = figN 2 (l.drop 1)) (em : m = figN 2 (figL 2 (l.drop 1))) (e5 : l5 = figL 2 (figL 2 (l.drop 1))) (eo : o5 = (ok && figO 2 (l.drop 1) && figO 2 (figL 2 (l.drop 1)))) (hg : w0.heap.size ≤ g) (hs : Scan w0 w g l ok) (hB : Below w0.heap.size w0 w) :
    Calls Try.prog 52 #[.pointer (some ⟨g, 0, none⟩)] w (ZoneTo w0 w g l5 (o5 && decide (m < 60) && decide (0 < h + m)) (-(60 * h + m)) (decide (h < 24))) := by
  have HY := Aside0.mk (show bytesIn (l.drop 1) from bytesIn_drop hby 1)
  have bh := figN_small HY.out 2 (by omega)
  have bm := figN_small (bytesIn_figL HY.out 2) 2 (by omega)
  rw [← eh] at bh
  rw [← em] at bm
  have HX := Aside0.mk hx
  have HX0 := Aside0.mk hx2
  have HG := Aside0.mk hg
  have HS := Aside0.mk hs
  have HB := Aside0.mk hB
  have E1 := Aside0.mk eh
  have E2 := Aside0.mk em
  have E3 := Aside0.mk e5
  have E4 := Aside0.mk eo
  clear hx hg hs hB hby eh em e5 eo hx2
  go_enter Try.func52, Try.ntmps52
  go_wp2_with (first | (go_at_call 56; (with_reducible refine (next_any_no g 90 ok l w0 w HX.out HS.out HB.out).mono ?_); rintro e w1 ⟨rfl, hs1, hb1, hg1⟩; have HS1 := Aside0.mk hs1; have HB1 := Aside0.mk hb1; have HG1 := Aside0.mk hg1; clear hs1 hb1 hg1) | (go_at_call 56; (with_reducible refine (next_any_yes g 45 ok l w0 w1 HX0.out HG.out HS1.out HB1.out).mono ?_); rintro e w2 ⟨rfl, hs2, hb2, hg2⟩; have HS2 := Aside0.mk hs2; have HB2 := Aside0.mk hb2; have HG2 := Aside0.mk hg2; clear hs2 hb2 hg2) | (go_at_call 51; (with_reducible refine (figures_2 g _ _ w0 w4 (bytesIn_figL HY.out 2) HG.out HS4.out HB4.out).mono ?_); rw [← E2.out]; rintro e w5 ⟨rfl, hs5, hb5, hg5⟩; rw [← E3.out, ← E4.out] at hs5; have c1 := (Scan_cells hs5).1; have f1 := (Scan_cells hs5).2; have HS5 := Aside0.mk hs5; have HB5 := Aside0.mk hb5; have HG5 := Aside0.mk hg5; clear hs5 hb5 hg5) | (go_at_call 51; (with_reducible refine (figures_2 g _ _ w0 w2 HY.out HG.out HS2.out HB2.out).mono ?_); rw [← E1.out]; rintro e w4 ⟨rfl, hs4, hb4, hg4⟩; have HS4 := Aside0.mk hs4; have HB4 := Aside0.mk hb4; have HG4 := Aside0.mk hg4; clear hs4 hb4 hg4))
  all_goals
    go_ret2
    refine ⟨rfl, Scan_ok' HS5.out _ _ ?_, below_set HB5.out HG.out, ((HG1.out.trans HG2.out).trans HG4.out |>.trans HG5.out).trans (grown_set _ _ _ _)⟩
    first
    | (simp_all; done)
    | (simp_all; omega)
set_option maxHeartbeats 8000000 in
theorem zone_plus (g : Nat) (ok : Bool) (l : List Int) (h m : Int) (o5 : Bool) (l5 : List Int) (w0 w : World) (hx : nextB 90 l = false) (hx2 : nextB 45 l = false) (hx3 : nextB 43 l = true) (hby : bytesIn l) (eh : h = figN 2 (l.drop 1)) (em : m = figN 2 (figL 2 (l.drop 1))) (e5 : l5 = figL 2 (figL 2 (l.drop 1))) (eo : o5 = (ok && figO 2 (l.drop 1) && figO 2 (figL 2 (l.drop 1)))) (hg : w0.heap.size ≤ g) (hs : Scan w0 w g l ok) (hB : Below w0.heap.size w0 w) :
    Calls Try.prog 52 #[.pointer (some ⟨g, 0, none⟩)] w (ZoneTo w0 w g l5 (o5 && decide (m < 60) && decide (0 < h + m)) (60 * h + m) (decide (h < 24))) := by
  have HY := Aside0.mk (show bytesIn (l.drop 1) from bytesIn_drop hby 1)
  have bh := figN_small HY.out 2 (by omega)
  have bm := figN_small (bytesIn_figL HY.out 2) 2 (by omega)
  rw [← eh] at bh
  rw [← em] at bm
  have HX := Aside0.mk hx
  have HX0 := Aside0.mk hx2
  have HX1 := Aside0.mk hx3
  have HG := Aside0.mk hg
  have HS := Aside0.mk hs
  have HB := Aside0.mk hB
  have E1 := Aside0.mk eh
  have E2 := Aside0.mk em
  have E3 := Aside0.mk e5
  have E4 := Aside0.mk eo
  clear hx hg hs hB hby eh em e5 eo hx2 hx3
  go_enter Try.func52, Try.ntmps52
  go_wp2_with (first | (go_at_call 56; (with_reducible refine (next_any_no g 90 ok l w0 w HX.out HS.out HB.out).mono ?_); rintro e w1 ⟨rfl, hs1, hb1, hg1⟩; have HS1 := Aside0.mk hs1; have HB1 := Aside0.mk hb1; have HG1 := Aside0.mk hg1; clear hs1 hb1 hg1) | (go_at_call 56; (with_reducible refine (next_any_no g 45 ok l w0 w1 HX0.out HS1.out HB1.out).mono ?_); rintro e w2 ⟨rfl, hs2, hb2, hg2⟩; have HS2 := Aside0.mk hs2; have HB2 := Aside0.mk hb2; have HG2 := Aside0.mk hg2; clear hs2 hb2 hg2) | (go_at_call 56; (with_reducible refine (next_any_yes g 43 ok l w0 w2 HX1.out HG.out HS2.out HB2.out).mono ?_); rintro e w3 ⟨rfl, hs3, hb3, hg3⟩; have HS3 := Aside0.mk hs3; have HB3 := Aside0.mk hb3; have HG3 := Aside0.mk hg3; clear hs3 hb3 hg3) | (go_at_call 51; (with_reducible refine (figures_2 g _ _ w0 w4 (bytesIn_figL HY.out 2) HG.out HS4.out HB4.out).mono ?_); rw [← E2.out]; rintro e w5 ⟨rfl, hs5, hb5, hg5⟩; rw [← E3.out, ← E4.out] at hs5; have c1 := (Scan_cells hs5).1; have f1 := (Scan_cells hs5).2; have HS5 := Aside0.mk hs5; have HB5 := Aside0.mk hb5; have HG5 := Aside0.mk hg5; clear hs5 hb5 hg5) | (go_at_call 51; (with_reducible refine (figures_2 g _ _ w0 w3 HY.out HG.out HS3.out HB3.out).mono ?_); rw [← E1.out]; rintro e w4 ⟨rfl, hs4, hb4, hg4⟩; have HS4 := Aside0.mk hs4; have HB4 := Aside0.mk hb4; have HG4 := Aside0.mk hg4; clear hs4 hb4 hg4))
  all_goals
    go_ret2
    refine ⟨rfl, Scan_ok' HS5.out _ _ ?_, below_set HB5.out HG.out, ((HG1.out.trans HG2.out).trans HG3.out |>.trans HG4.out |>.trans HG5.out).trans (grown_set _ _ _ _)⟩
    first
    | (simp_all; done)
    | (simp_all; omega)
set_option maxHeartbeats 8000000 in
theorem zone_none (g : Nat) (ok : Bool) (l : List Int) (h m : Int) (o5 : Bool) (l5 : List Int) (w0 w : World) (hx : nextB 90 l = false) (hx2 : nextB 45 l = false) (hx3 : nextB 43 l = false) (hby : bytesIn l) (eh : h = figN 2 (l)) (em : m = figN 2 (figL 2 (l))) (e5 : l5 = figL 2 (figL 2 (l))) (eo : o5 = (false && figO 2 (l) && figO 2 (figL 2 (l)))) (hg : w0.heap.size ≤ g) (hs : Scan w0 w g l ok) (hB : Below w0.heap.size w0 w) :
    Calls Try.prog 52 #[.pointer (some ⟨g, 0, none⟩)] w (ZoneTo w0 w g l5 (o5 && decide (m < 60) && decide (0 < h + m)) (60 * h + m) (decide (h < 24))) := by
  have HY := Aside0.mk (show bytesIn (l) from hby)
  have bh := figN_small HY.out 2 (by omega)
  have bm := figN_small (bytesIn_figL HY.out 2) 2 (by omega)
  rw [← eh] at bh
  rw [← em] at bm
  have HX := Aside0.mk hx
  have HX0 := Aside0.mk hx2
  have HX1 := Aside0.mk hx3
  have HG := Aside0.mk hg
  have HS := Aside0.mk hs
  have HB := Aside0.mk hB
  have E1 := Aside0.mk eh
  have E2 := Aside0.mk em
  have E3 := Aside0.mk e5
  have E4 := Aside0.mk eo
  clear hx hg hs hB hby eh em e5 eo hx2 hx3
  go_enter Try.func52, Try.ntmps52
  go_wp2_with (first | (go_at_call 56; (with_reducible refine (next_any_no g 90 ok l w0 w HX.out HS.out HB.out).mono ?_); rintro e w1 ⟨rfl, hs1, hb1, hg1⟩; have HS1 := Aside0.mk hs1; have HB1 := Aside0.mk hb1; have HG1 := Aside0.mk hg1; clear hs1 hb1 hg1) | (go_at_call 56; (with_reducible refine (next_any_no g 45 ok l w0 w1 HX0.out HS1.out HB1.out).mono ?_); rintro e w2 ⟨rfl, hs2, hb2, hg2⟩; have HS2 := Aside0.mk hs2; have HB2 := Aside0.mk hb2; have HG2 := Aside0.mk hg2; clear hs2 hb2 hg2) | (go_at_call 56; (with_reducible refine (next_any_no g 43 ok l w0 w2 HX1.out HS2.out HB2.out).mono ?_); rintro e w3 ⟨rfl, hs3, hb3, hg3⟩; have c1 := (Scan_cells hs3).1; have f1 := (Scan_cells hs3).2; have HS3 := Aside0.mk hs3; have HB3 := Aside0.mk hb3; have HG3 := Aside0.mk hg3; clear hs3 hb3 hg3) | (go_at_call 51; (with_reducible refine (figures_2 g _ _ w0 w4 (bytesIn_figL HY.out 2) HG.out HS4.out HB4.out).mono ?_); rw [← E2.out]; rintro e w5 ⟨rfl, hs5, hb5, hg5⟩; rw [← E3.out, ← E4.out] at hs5; have c1 := (Scan_cells hs5).1; have f1 := (Scan_cells hs5).2; have HS5 := Aside0.mk hs5; have HB5 := Aside0.mk hb5; have HG5 := Aside0.mk hg5; clear hs5 hb5 hg5) | (go_at_call 51; (with_reducible refine (figures_2 g _ _ w0 _ HY.out HG.out (Scan_ok HS3.out false) (below_set HB3.out HG.out)).mono ?_); rw [← E1.out]; rintro e w4 ⟨rfl, hs4, hb4, hg4⟩; have HS4 := Aside0.mk hs4; have HB4 := Aside0.mk hb4; have HG4 := Aside0.mk hg4; clear hs4 hb4 hg4))
  all_goals
    go_ret2
    refine ⟨rfl, Scan_ok' HS5.out _ _ ?_, below_set HB5.out HG.out, ((HG1.out.trans HG2.out).trans (HG3.out.trans (grown_set _ _ _ _)) |>.trans HG4.out |>.trans HG5.out).trans (grown_set _ _ _ _)⟩
    first
    | (simp_all; done)
    | (simp_all; omega)
def zRest (l : List Int) : List Int := if (nextB 45 l || nextB 43 l) = true then l.drop 1 else l
def zoneV (l : List Int) : Int := if nextB 90 l = true then 0 else if nextB 45 l = true then -(60 * figN 2 (zRest l) + figN 2 (figL 2 (zRest l))) else 60 * figN 2 (zRest l) + figN 2 (figL 2 (zRest l))
def zoneT (l : List Int) : Bool := if nextB 90 l = true then true else decide (figN 2 (zRest l) < 24)
def zoneL (l : List Int) : List Int := if nextB 90 l = true then l.drop 1 else figL 2 (figL 2 (zRest l))
def zoneO (ok : Bool) (l : List Int) : Bool := if nextB 90 l = true then ok else (ok && (nextB 45 l || nextB 43 l)) && figO 2 (zRest l) && figO 2 (figL 2 (zRest l)) && decide (figN 2 (figL 2 (zRest l)) < 60) && decide (0 < figN 2 (zRest l) + figN 2 (figL 2 (zRest l)))
theorem zone_any (g : Nat) (ok : Bool) (l : List Int) (w0 w : World) (hby : bytesIn l) (hg : w0.heap.size ≤ g) (hs : Scan w0 w g l ok) (hB : Below w0.heap.size w0 w) :
    Calls Try.prog 52 #[.pointer (some ⟨g, 0, none⟩)] w (ZoneTo w0 w g (zoneL l) (zoneO ok l) (zoneV l) (zoneT l)) := by
  cases h90 : nextB 90 l with
  | true =>
    have := zone_z g ok l w0 w h90 hg hs hB
    simpa [zoneV, zoneT, zoneL, zoneO, h90] using this
  | false =>
    cases h45 : nextB 45 l with
    | true =>
      have := zone_minus g ok l _ _ _ _ w0 w h90 h45 hby rfl rfl rfl rfl hg hs hB
      simpa [zoneV, zoneT, zoneL, zoneO, zRest, h90, h45] using this
    | false =>
      cases h43 : nextB 43 l with
      | true =>
        have := zone_plus g ok l _ _ _ _ w0 w h90 h45 h43 hby rfl rfl rfl rfl hg hs hB
        simpa [zoneV, zoneT, zoneL, zoneO, zRest, h90, h45, h43] using this
      | false =>
        have := zone_none g ok l _ _ _ _ w0 w h90 h45 h43 hby rfl rfl rfl rfl hg hs hB
        simpa [zoneV, zoneT, zoneL, zoneO, zRest, h90, h45, h43] using this
/-- Blocks of the call's own beside the scanner's. -/
def Blks (w : World) (g : Nat) (bs : List (Nat × Obj)) : Prop := (bs.map Prod.fst).Nodup ∧ ∀ p, p ∈ bs → p.1 ≠ g ∧ w.heap[p.1]? = some p.2
def SB (w0 w : World) (g : Nat) (l : List Int) (ok : Bool) (bs : List (Nat × Obj)) : Prop := Scan w0 w g l ok ∧ Below w0.heap.size w0 w ∧ w0.heap.size ≤ g ∧ Blks w g bs ∧ ∀ p, p ∈ bs → w0.heap.size ≤ p.1
theorem Scan_lt {w0 w : World} {g : Nat} {l : List Int} {ok : Bool} (h : Scan w0 w g l ok) : g < w.heap.size := by
  obtain ⟨A, c, hb, _⟩ := h
  exact blk_lt hb
theorem SB.step {w0 w w' : World} {g : Nat} {l l' : List Int} {ok ok' : Bool} {bs : List (Nat × Obj)} (h : SB w0 w g l ok bs) (hs : Scan w0 w' g l' ok') (hb : Below w0.heap.size w0 w') (hg : w.grownBy w' (some g)) : SB w0 w' g l' ok' bs :=
  ⟨hs, hb, h.2.2.1, ⟨h.2.2.2.1.1, fun p hp => ⟨(h.2.2.2.1.2 p hp).1, blk_grown (h.2.2.2.1.2 p hp).2 hg (by intro e; injection e with e; exact (h.2.2.2.1.2 p hp).1 e)⟩⟩, h.2.2.2.2⟩
theorem SB.alloc {w0 w w' : World} {g g2 : Nat} {l : List Int} {ok : Bool} {bs : List (Nat × Obj)} {o : Obj} (h : SB w0 w g l ok bs) (e : g2 = w.heap.size) (ho : w'.heap[g2]? = some o) (hb : Below w.heap.size w w') : SB w0 w' g l ok ((g2, o) :: bs) := by
  obtain ⟨⟨A, c, hk, hr, hc⟩, h2, h3, h4, h5⟩ := h
  have hlt : ∀ p, p ∈ bs → p.1 < w.heap.size := fun p hp => blk_lt (h4.2 p hp).2
  refine ⟨⟨A, c, blk_below hk hb, hr, hc⟩, below_step h2 hb, h3, ⟨?_, ?_⟩, ?_⟩
  · rw [List.map_cons, List.nodup_cons]
    refine ⟨?_, h4.1⟩
    intro hm
    obtain ⟨p, hp, hpe⟩ := List.mem_map.1 hm
    have := hlt p hp
    omega
  · intro p hp
    rcases List.mem_cons.1 hp with rfl | hp
    · have := blk_lt hk
      exact ⟨by show g2 ≠ g; omega, ho⟩
    · exact ⟨(h4.2 p hp).1, blk_below (h4.2 p hp).2 hb⟩
  · intro p hp
    rcases List.mem_cons.1 hp with rfl | hp
    · have := below_size h2
      show w0.heap.size ≤ g2
      omega
    · exact h5 p hp
theorem SB.head {w0 w : World} {g g2 : Nat} {l : List Int} {ok : Bool} {bs : List (Nat × Obj)} {o : Obj} (h : SB w0 w g l ok ((g2, o) :: bs)) : w.heap[g2]? = some o := (h.2.2.2.1.2 _ List.mem_cons_self).2
theorem SB.snd {w0 w : World} {g g2 g3 : Nat} {l : List Int} {ok : Bool} {bs : List (Nat × Obj)} {o o3 : Obj} (h : SB w0 w g l ok ((g3, o3) :: (g2, o) :: bs)) : w.heap[g2]? = some o := (h.2.2.2.1.2 _ (List.mem_cons_of_mem _ List.mem_cons_self)).2
/-- The head's block is written. -/
theorem SB.put {w0 w w' : World} {g g2 : Nat} {l : List Int} {ok : Bool} {bs : List (Nat × Obj)} {o o' : Obj} (h : SB w0 w g l ok ((g2, o) :: bs)) (ho : w'.heap[g2]? = some o') (hg : w.grownBy w' (some g2)) : SB w0 w' g l ok ((g2, o') :: bs) := by
  obtain ⟨⟨A, c, hk, hr, hc⟩, h2, h3, h4, h5⟩ := h
  have hne := (h4.2 _ List.mem_cons_self).1
  have hge := h5 _ List.mem_cons_self
  refine ⟨⟨A, c, blk_grown hk hg (by intro e; injection e with e; exact hne e.symm), hr, hc⟩, h2.grown hg (below_size h2) (fun q hq => by cases hq; exact hge), h3, ⟨h4.1, ?_⟩, ?_⟩
  · intro p hp
    rcases List.mem_cons.1 hp with rfl | hp
    · exact ⟨hne, ho⟩
    · refine ⟨(h4.2 p (List.mem_cons_of_mem _ hp)).1, blk_grown (h4.2 p (List.mem_cons_of_mem _ hp)).2 hg ?_⟩
      intro e
      injection e with e
      have := h4.1
      rw [List.map_cons, List.nodup_cons] at this
      exact this.1 (List.mem_map.2 ⟨p, hp, e⟩)
  · intro p hp
    rcases List.mem_cons.1 hp with rfl | hp
    · exact hge
    · exact h5 p (List.mem_cons_of_mem _ hp)
theorem SB.start {w0 w w' : World} {g gR : Nat} {A : Option Addr} {c : Nat} {l : List Int} {o : Obj} (hr : Kd.C (Kd.int .u8) w0 A l.length l) (hc : l.length ≤ c) (hB : Below w0.heap.size w0 w) (hR : w.heap[gR]? = some o) (hRg : w0.heap.size ≤ gR) (hg : g = w.heap.size) (hb : w'.heap[g]? = some (.cells #[.slice A l.length c, .bool true] 81 (0, 0))) (hw : Below w.heap.size w w') : SB w0 w' g l true [(gR, o)] := by
  refine ⟨⟨A, c, hb, hr, hc⟩, below_step hB hw, by have := below_size hB; omega, ⟨by simp, ?_⟩, ?_⟩
  · intro p hp
    rw [List.mem_singleton.1 hp]
    have := blk_lt hR
    exact ⟨by show gR ≠ g; omega, blk_below hR hw⟩
  · intro p hp
    rw [List.mem_singleton.1 hp]
    exact hRg
def SBTo (w0 : World) (g : Nat) (l : List Int) (ok : Bool) (bs : List (Nat × Obj)) (v : Value) (e : Ending) (w' : World) : Prop := e = .returned v ∧ SB w0 w' g l ok bs
theorem figures_SB (g : Nat) (ok : Bool) (l : List Int) (bs : List (Nat × Obj)) (w0 w : World) (hby : bytesIn l) (h : SB w0 w g l ok bs) :
    Calls Try.prog 51 #[.pointer (some ⟨g, 0, none⟩), .int .i64 2] w (SBTo w0 g (figL 2 l) (ok && figO 2 l) bs (.int .i64 (figN 2 l))) :=
  (figures_2 g ok l w0 w hby h.2.2.1 h.1 h.2.1).mono fun _ _ ⟨he, hs, hb, hg⟩ => ⟨he, h.step hs hb hg⟩
theorem zone_SB (g : Nat) (ok : Bool) (l : List Int) (bs : List (Nat × Obj)) (w0 w : World) (hby : bytesIn l) (h : SB w0 w g l ok bs) :
    Calls Try.prog 52 #[.pointer (some ⟨g, 0, none⟩)] w (SBTo w0 g (zoneL l) (zoneO ok l) bs (.tuple #[.int .i64 (zoneV l), .bool (zoneT l)])) :=
  (zone_any g ok l w0 w hby h.2.2.1 h.1 h.2.1).mono fun _ _ ⟨he, hs, hb, hg⟩ => ⟨he, h.step hs hb hg⟩
end

/-! ### spec_days: function 83 -/
def spec_days.j0 : Nat → Int → Int → Bool → Option (Int)
  | 0, _, _, _ => none
  | k + 1, x0, x5, x6 => if x6 = true then (some 30) else (if x5 = 2 then (if (Int.tmod x0 4) = 0 then (if (Int.tmod x0 100) = 0 then (if (Int.tmod x0 400) = 0 then (some 29) else (some 28)) else (some 29)) else (some 28)) else (some 31))
def spec_days.f (k : Nat) (a0 : Int) (a1 : Int) : Option (Int) := if a1 = 4 then (spec_days.j0 k a0 a1 (a1 == 4)) else (if a1 = 6 then (spec_days.j0 k a0 a1 (a1 == 6)) else (if a1 = 9 then (spec_days.j0 k a0 a1 (a1 == 9)) else (spec_days.j0 k a0 a1 (a1 == 11))))
theorem spec_days.mono_l : ∀ k, (∀ y0 y1 y2, LeO (spec_days.j0 k y0 y1 y2) (spec_days.j0 (k + 1) y0 y1 y2))
  | 0 => fun _ _ _ r h => by simp [spec_days.j0] at h
  | k + 1 => by
    have ih0 := spec_days.mono_l k
    · intro y0 y1 y2
      unfold spec_days.j0
      repeat' first
      | (with_reducible exact ih0 _ _ _)
      | (with_reducible exact LeO.refl _)
      | (with_reducible exact LeO.none _)
      | (with_reducible refine LeO.ite ?_ ?_)
      | (with_reducible refine LeO.bind ?_ (fun _ => ?_))
      | exact ih0 _ _ _
      | exact LeO.none _
      | refine LeO.ite ?_ ?_
      | refine LeO.bind ?_ (fun _ => ?_)
theorem spec_days.mono : ∀ a0 a1 k, LeO (spec_days.f k a0 a1) (spec_days.f (k + 1) a0 a1) := by
  intro a0 a1 k
  have ih0 := spec_days.mono_l k
  unfold spec_days.f
  repeat' first
      | (with_reducible exact ih0 _ _ _)
      | (with_reducible exact LeO.refl _)
      | (with_reducible exact LeO.none _)
      | (with_reducible refine LeO.ite ?_ ?_)
      | (with_reducible refine LeO.bind ?_ (fun _ => ?_))
      | exact ih0 _ _ _
      | exact LeO.none _
      | refine LeO.ite ?_ ?_
      | refine LeO.bind ?_ (fun _ => ?_)
set_option maxHeartbeats 8000000 in
set_option maxRecDepth 100000 in
theorem spec_days.calls (k : Nat) (a0 : Int) (a1 : Int) (r : Int) (w : World) (h : spec_days.f k a0 a1 = some r) :
    Calls Try.prog 83 #[.int .i64 a0, .int .i64 a1] w fun e w' => e = .returned (.int .i64 r) ∧ Drawn0 w w' := by
  have H : (if a1 = 4 then (spec_days.j0 k a0 a1 (a1 == 4)) else (if a1 = 6 then (spec_days.j0 k a0 a1 (a1 == 6)) else (if a1 = 9 then (spec_days.j0 k a0 a1 (a1 == 9)) else (spec_days.j0 k a0 a1 (a1 == 11))))) = some r := h
  clear h
  have HC3 := Aside0.mk H
  clear H
  go_enter Try.func83, Try.ntmps83
  go_upto_if 6 with (fail)
  go_cut [6] (fun v6 wc => ∃ (kq : Nat) (x6_2 : Bool), v6 = .bool x6_2 ∧ Aside0 (spec_days.j0 kq a0 a1 x6_2 = some r) ∧ Aside0 (kq ≤ k) ∧ Drawn0 w wc)
  case first =>
    have H := HC3.out
    clear HC3
    by_cases c4 : a1 = 4
    · rw [if_pos c4] at H
      have c4b0 : (a1 == 4) = true := beq_iff_eq.mpr c4
      have c4b1 : (a1 != 4) = false := bne_eq_false_iff_eq.mpr c4
      clear c4
      (first | rw [c4b0] | (simp only [i64_w, i32_w]; rw [c4b0]) | skip)
      have H' := Aside0.mk H
      clear H
      go_wp2
      go_meet
      case rel => exact ⟨_, ((a1 == 4)), (by first | rfl | (simp; done) | (simp [*]; done)), H', ⟨by first | omega | exact Nat.le_refl _⟩, by repeat (first | exact Drawn0.refl _ | apply Drawn0.step)⟩
    · rw [if_neg c4] at H
      have c4b0 : (a1 == 4) = false := beq_eq_false_iff_ne.mpr c4
      have c4b1 : (a1 != 4) = true := bne_iff_ne.mpr c4
      (first | rw [c4b0] | (simp only [i64_w, i32_w]; rw [c4b0]) | skip)
      by_cases c5 : a1 = 6
      · rw [if_pos c5] at H
        have c5b0 : (a1 == 6) = true := beq_iff_eq.mpr c5
        have c5b1 : (a1 != 6) = false := bne_eq_false_iff_eq.mpr c5
        clear c5
        have H' := Aside0.mk H
        clear H
        go_wp2
        go_meet
        case rel => exact ⟨_, ((a1 == 6)), (by first | rfl | (simp; done) | (simp [*]; done)), H', ⟨by first | omega | exact Nat.le_refl _⟩, by repeat (first | exact Drawn0.refl _ | apply Drawn0.step)⟩
      · rw [if_neg c5] at H
        have c5b0 : (a1 == 6) = false := beq_eq_false_iff_ne.mpr c5
        have c5b1 : (a1 != 6) = true := bne_iff_ne.mpr c5
        by_cases c6 : a1 = 9
        · rw [if_pos c6] at H
          have c6b0 : (a1 == 9) = true := beq_iff_eq.mpr c6
          have c6b1 : (a1 != 9) = false := bne_eq_false_iff_eq.mpr c6
          clear c6
          have H' := Aside0.mk H
          clear H
          go_wp2
          go_meet
          case rel => exact ⟨_, ((a1 == 9)), (by first | rfl | (simp; done) | (simp [*]; done)), H', ⟨by first | omega | exact Nat.le_refl _⟩, by repeat (first | exact Drawn0.refl _ | apply Drawn0.step)⟩
        · rw [if_neg c6] at H
          have c6b0 : (a1 == 9) = false := beq_eq_false_iff_ne.mpr c6
          have c6b1 : (a1 != 9) = true := bne_iff_ne.mpr c6
          have H' := Aside0.mk H
          clear H
          go_wp2
          go_meet
          case rel => exact ⟨_, ((a1 == 11)), (by first | rfl | (simp; done) | (simp [*]; done)), H', ⟨by first | omega | exact Nat.le_refl _⟩, by repeat (first | exact Drawn0.refl _ | apply Drawn0.step)⟩
  case rest =>
    clear HC3
    try clear p2
    try clear c4
    try clear c4b0
    try clear c4b1
    try clear c5
    try clear c5b0
    try clear c5b1
    try clear c6
    try clear c6b0
    try clear c6b1
    obtain ⟨kq, x6_2, rfl, HA, HJ2, ⟨mc2, rfl⟩⟩ := hcut
    cases kq with
    | zero => exact absurd HA.out (by simp [spec_days.j0])
    | succ kj2 =>
      have H := HA.out
      clear HA
      simp only [spec_days.j0] at H
      by_cases c7 : x6_2 = true
      · subst c7
        have H1 : (some 30) = some r := by rw [if_pos rfl] at H; exact H
        clear H
        have H := H1
        clear H1
        obtain rfl := Option.some.inj H
        go_wp2
        go_ret
        exact ⟨by first | rfl | (simp; done) | (simp [*]; done), by repeat (first | exact Drawn0.refl _ | apply Drawn0.step)⟩
      · replace c7 := Bool.eq_false_iff.mpr c7
        subst c7
        have H1 : (if a1 = 2 then (if (Int.tmod a0 4) = 0 then (if (Int.tmod a0 100) = 0 then (if (Int.tmod a0 400) = 0 then (some 29) else (some 28)) else (some 29)) else (some 28)) else (some 31)) = some r := by rw [if_neg (show ¬ (false = true) by decide)] at H; exact H
        clear H
        have H := H1
        clear H1
        by_cases c8 : a1 = 2
        · rw [if_pos c8] at H
          have c8b0 : (a1 == 2) = true := beq_iff_eq.mpr c8
          have c8b1 : (a1 != 2) = false := bne_eq_false_iff_eq.mpr c8
          clear c8
          by_cases c9 : (Int.tmod a0 4) = 0
          · rw [if_pos c9] at H
            have c9b0 : ((Int.tmod a0 4) == 0) = true := beq_iff_eq.mpr c9
            have c9b1 : ((Int.tmod a0 4) != 0) = false := bne_eq_false_iff_eq.mpr c9
            clear c9
            by_cases c10 : (Int.tmod a0 100) = 0
            · rw [if_pos c10] at H
              have c10b0 : ((Int.tmod a0 100) == 0) = true := beq_iff_eq.mpr c10
              have c10b1 : ((Int.tmod a0 100) != 0) = false := bne_eq_false_iff_eq.mpr c10
              clear c10
              by_cases c11 : (Int.tmod a0 400) = 0
              · rw [if_pos c11] at H
                have c11b0 : ((Int.tmod a0 400) == 0) = true := beq_iff_eq.mpr c11
                have c11b1 : ((Int.tmod a0 400) != 0) = false := bne_eq_false_iff_eq.mpr c11
                clear c11
                obtain rfl := Option.some.inj H
                go_wp2
                go_ret
                exact ⟨by first | rfl | (simp; done) | (simp [*]; done), by repeat (first | exact Drawn0.refl _ | apply Drawn0.step)⟩
              · rw [if_neg c11] at H
                have c11b0 : ((Int.tmod a0 400) == 0) = false := beq_eq_false_iff_ne.mpr c11
                have c11b1 : ((Int.tmod a0 400) != 0) = true := bne_iff_ne.mpr c11
                obtain rfl := Option.some.inj H
                go_wp2
                go_ret
                exact ⟨by first | rfl | (simp; done) | (simp [*]; done), by repeat (first | exact Drawn0.refl _ | apply Drawn0.step)⟩
            · rw [if_neg c10] at H
              have c10b0 : ((Int.tmod a0 100) == 0) = false := beq_eq_false_iff_ne.mpr c10
              have c10b1 : ((Int.tmod a0 100) != 0) = true := bne_iff_ne.mpr c10
              obtain rfl := Option.some.inj H
              go_wp2
              go_ret
              exact ⟨by first | rfl | (simp; done) | (simp [*]; done), by repeat (first | exact Drawn0.refl _ | apply Drawn0.step)⟩
          · rw [if_neg c9] at H
            have c9b0 : ((Int.tmod a0 4) == 0) = false := beq_eq_false_iff_ne.mpr c9
            have c9b1 : ((Int.tmod a0 4) != 0) = true := bne_iff_ne.mpr c9
            obtain rfl := Option.some.inj H
            go_wp2
            go_ret
            exact ⟨by first | rfl | (simp; done) | (simp [*]; done), by repeat (first | exact Drawn0.refl _ | apply Drawn0.step)⟩
        · rw [if_neg c8] at H
          have c8b0 : (a1 == 2) = false := beq_eq_false_iff_ne.mpr c8
          have c8b1 : (a1 != 2) = true := bne_iff_ne.mpr c8
          obtain rfl := Option.some.inj H
          go_wp2
          go_ret
          exact ⟨by first | rfl | (simp; done) | (simp [*]; done), by repeat (first | exact Drawn0.refl _ | apply Drawn0.step)⟩

end Go.Proofs.Ytmiemfgcggkbnaa.QG
