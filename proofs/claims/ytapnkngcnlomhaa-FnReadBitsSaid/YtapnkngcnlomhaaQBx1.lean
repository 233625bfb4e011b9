-- Written by a program of this work (wip/patch_print.py) for this claim.
import Derived.Test.YtapnkngcnlomhaaQBx0
namespace Go.Proofs.Ytapnkngcnlomhaa.QB
open Go.RowKit Go.Proofs.YtapnkngcnlomhaaW.PrintWords Go.Proofs.YtapnkngcnlomhaaW.PrintLast Go.Proofs.YtapnkngcnlomhaaW.PrintMore
attribute [local go_sem] max2_int min2_int max_two min_two max_three min_three max_four min_four   -- for this text's walks alone
set_option linter.unusedVariables false
set_option linter.unusedSimpArgs false

/-! ### impl_short: function 35 -/
def impl_short.f (l0 : List Int) : Option (Bool) := some (decide ((l0.length : Int) ≤ 10000))
set_option maxHeartbeats 8000000 in
set_option maxRecDepth 100000 in
theorem impl_short.calls (A0 : Option Addr) (c0 : Nat) (l0 : List Int) (r : Bool) (w : World) (hr0 : Kd.C (Kd.int .u8) w A0 l0.length l0) (hc0 : l0.length ≤ c0) (h : impl_short.f l0 = some r) :
    Calls Try.prog 35 #[.slice A0 l0.length c0] w fun e w' => e = .returned (.bool r) ∧ Drawn0 w w' := by
  have HR0 := Aside0.mk hr0
  have HC0 := Aside0.mk hc0
  clear hr0 hc0
  have H : (some (decide ((l0.length : Int) ≤ 10000))) = some r := h
  clear h
  obtain rfl := Option.some.inj H
  go_enter Try.func35, Try.ntmps35
  go_wp2
  go_ret
  exact ⟨by first | rfl | (simp; done) | (simp [*]; done), by repeat (first | exact Drawn0.refl _ | apply Drawn0.step)⟩

/-! ### impl_copied: function 37 -/
def impl_copied.f (l0 : List Int) : Option (List Int) := if ([] : List Int).length + l0.length < 140737488355328 then (some (([] : List Int) ++ l0)) else (none)
set_option maxHeartbeats 8000000 in
set_option maxRecDepth 100000 in
theorem impl_copied.calls (A0 : Option Addr) (c0 : Nat) (l0 : List Int) (r : List Int) (w : World) (hr0 : Kd.C (Kd.int .u8) w A0 l0.length l0) (hc0 : l0.length ≤ c0) (h : impl_copied.f l0 = some r) :
    Calls Try.prog 37 #[.slice A0 l0.length c0] w fun e w' => ∃ v0_ : Value, e = .returned (v0_) ∧ Kd.R (Kd.int .u8) 5 w' w.heap.size (fun _ => True) v0_ r ∧ Below w.heap.size w w' := by
  have HR0 := Aside0.mk hr0
  have HC0 := Aside0.mk hc0
  clear hr0 hc0
  have HB := Aside0.mk (Below.refl w.heap.size w)
  have H : (if ([] : List Int).length + l0.length < 140737488355328 then (some (([] : List Int) ++ l0)) else (none)) = some r := h
  clear h
  by_cases c2 : ([] : List Int).length + l0.length < 140737488355328
  · rw [if_pos c2] at H
    have LMc2 := Aside0.mk c2
    clear c2
    obtain ⟨y101, hy101⟩ : ∃ y_ : List Int, y_ = (([] : List Int) ++ l0) := ⟨_, rfl⟩
    replace H : (some y101) = some r := by first | (rw [hy101]; with_reducible exact H) | (have H2_ := (Option.bind_some _ _).symm.trans H; rw [hy101]; with_reducible exact H2_) | (have H2_ := (Option.bind_some _ _).symm.trans H; with_reducible exact H2_) | with_reducible exact H | (rw [hy101]; exact H) | exact H
    have Ny101 := Aside0.mk hy101
    clear hy101
    obtain rfl := Option.some.inj H
    go_enter Try.func37, Try.ntmps37
    go_wp2_with (first | ((with_reducible refine gate_builtin (b := .append) (xs := #[.const (.slice none 0 0), .tmp 3]) rfl ?_); at_builtin; refine Kd.R_append_rows (Kd.int .u8) (w0 := w) w.heap.size rfl (.const (.slice none 0 0)) (.tmp 3) 22 5 (.int .u8 0) 1 rfl Try.underlying22 info5 rfl (by decide) (by omega) (.slice none 0 0) ([] : List Int) l0 _ _ _ (fun _ => True) (fun _ => False) rfl rfl ?aO ?aR (fun _ _ h => h) (fun _ h => h.elim) ?aF ?aB ?aS ?aL ?_; (case aR => repeat (first | exact HR0.out | (with_reducible refine Kd.C_alloc ?_ _) | (with_reducible refine Kd.C_drewN ?_ _) | (with_reducible refine Kd.C_drew ?_))); (case aB => exact (by repeat (first | (with_reducible first | exact HB.out | apply below_alloc | apply pw_below_drewN | apply below_drew1) | exact HB.out))); (case aF => exact (fun _ _ => trivial)); (case aO => exact ((Kd.R_nil _ _ _ _ (fun _ => True)))); (case aS => exact (below_size (by repeat (first | (with_reducible first | exact HB.out | apply below_alloc | apply pw_below_drewN | apply below_drew1) | exact HB.out)))); (case aL => have := LMc2.out; omega); intro v102 w3 ho hb hg hat; rw [← Ny101.out] at ho; have n0_ := Aside0.mk (hb); have n1_ := Aside0.mk (ho); clear HB; have HB := n0_; have HO103 := n1_; clear n0_ n1_; clear ho hb hg hat))
    go_ret
    exact ⟨_, by first | rfl | (simp [errW_none, errW_some] <;> rfl) | (simp [*, errW_none, errW_some] <;> rfl), by (with_reducible repeat (first | apply Kd.R_alloc | apply Kd.R_drewN | apply Kd.R_drew)); exact HO103.out, by repeat (first | (with_reducible first | exact HB.out | apply below_alloc | apply pw_below_drewN | apply below_drew1) | exact HB.out)⟩
  · rw [if_neg c2] at H
    exact absurd H (by simp)

-- NOT PRINTED: function 49 (asn1_parseBitString)

-- NOT PRINTED: function 39 (asn1_ZZBits)

/-- The bits of the last byte that are not a bit string's own. -/
def bitsRest (l : List Int) : Int := Go.bits .and .u8 (rd l (wrap64 ((l.length : Int) - 1))) (((shl .u8 1 (rd l 0)) - 1) % 256)
def isBits (l : List Int) : Prop := 0 < l.length ∧ rd l 0 ≤ 7 ∧ (l.length = 1 → rd l 0 = 0) ∧ bitsRest l = 0
theorem cut_one_ (A : Option Addr) (n c : Nat) (h : 1 ≤ n) : ∀ W : World, (Instr.slice 22 (.slice A n c) (some (.int .i64 1)) none none).run Try.prog W = .ok (.slice (if c = 1 then A else A.map (·.add 1)) (n - 1) (c - 1)) W := by
  intro W
  obtain ⟨i0, hi0, _, hsz, _⟩ := info_parts info5
  have hel : Try.prog.elem 22 = 5 := by simp [Program.elem, Try.underlying22]
  have hu : Try.prog.underlying 22 = some (.slice (Try.prog.elem 22)) := by rw [hel]; exact Try.underlying22
  have := run_slice_l W 22 A n c hu .i64 (1 : Int) (by omega) (by omega)
  rw [this, hel]
  simp [sizeOf, typeInfo, hi0, hsz, sliced, Result.andThen]
def BitsBad (w : World) (e : Ending) (w' : World) : Prop := ∃ T x, e = .returned (.tuple #[.agg #[.slice none 0 0, .int .i64 0], .iface T x]) ∧ Below w.heap.size w w'
def BitsGood (w : World) (A0 : Option Addr) (c0 : Nat) (l : List Int) (e : Ending) (w' : World) : Prop := e = .returned (.tuple #[.agg #[.slice (if c0 = 1 then A0 else A0.map (·.add 1)) (l.length - 1) (c0 - 1), .int .i64 (8 * ((l.length : Int) - 1) - rd l 0)], .nilIface]) ∧ Below w.heap.size w w'

set_option maxHeartbeats 4000000 in
theorem parseBits_empty (A0 : Option Addr) (c0 : Nat) (w : World) : Calls Try.prog 49 #[.slice A0 0 c0] w (BitsBad w) := by
  have hu1 := Try.underlying63
  have hu2 := Try.underlying87
  have HB := Aside0.mk (Below.refl w.heap.size w)
  go_enter Try.func49, Try.ntmps49
  go_wp2_with (first | ((with_reducible refine gate_dst (N := 2) rfl ?_); (try (refine gate_guard (by rfl) ?_; dsimp only)); refine box_event ?hg (N := 2) ?hd (cs := #[.slice none 0 0, .int .i64 0]) (t := 63) ?hr ?_; (case hd => rfl); (case hg => rfl); (case hr => first | (go_simp; done) | (go_simp; rfl)); intro gb hg w3 hbox hb; have BK := Aside0.mk hbox; have HB2 := Aside0.mk (below_step HB.out hb); have GE := Aside0.mk ((by rw [hg]; exact HB.out.size) : w.heap.size ≤ gb); have hc0 := (blk_cell BK.out 0).trans (show _ = some (.slice none 0 0) from rfl); have hc1 := (blk_cell BK.out 1).trans (show _ = some (.int .i64 0) from rfl); have hf0 := blk_frozen BK.out 0; have hf1 := blk_frozen BK.out 1; clear hbox hb; clear hg))
  repeat (go_quiet (fail))
  go_wp2
  refine bodyPost_ret (results_ct rfl _ _ gb 63 #[.slice none 0 0, .int .i64 0] (0, 0) _ rfl (by (with_reducible repeat (first | refine blk_drewN ?_ _ | refine blk_drew ?_ | refine blk_alloc ?_ _)); exact BK.out) Try.underlying63 rfl (by kernel_rfl)) rfl ?_
  exact ⟨_, _, rfl, by repeat (first | (with_reducible first | exact HB2.out | apply below_alloc | apply pw_below_drewN | apply below_drew1 | refine below_set ?_ GE.out) | exact HB2.out)⟩

set_option maxHeartbeats 8000000 in
set_option maxRecDepth 100000 in
theorem parseBits_onePos (A0 : Option Addr) (c0 : Nat) (l0 : List Int) (w : World) (hr0 : Kd.C (Kd.int .u8) w A0 l0.length l0) (hbb : 0 ≤ rd l0 0 ∧ rd l0 0 ≤ 255) (hl : l0.length ≤ 10000) (h0 : 0 < l0.length) (h7 : rd l0 0 ≤ 7) (h1 : l0.length = 1) (h2 : 0 < rd l0 0) : Calls Try.prog 49 #[.slice A0 l0.length c0] w (BitsBad w) := by
  have hu1 := Try.underlying63
  have hu2 := Try.underlying87
  obtain ⟨A1, hA1, hcut0⟩ : ∃ A1, A1 = (if c0 = 1 then A0 else A0.map (·.add 1)) ∧ ∀ W : World, (Instr.slice 22 (.slice A0 l0.length c0) (some (.int .i64 1)) none none).run Try.prog W = .ok (.slice A1 (l0.length - 1) (c0 - 1)) W := ⟨_, rfl, cut_one_ A0 l0.length c0 (by omega)⟩
  have HA := Aside0.mk hA1
  have hcut := Aside0.mk hcut0
  clear hA1 hcut0
  have HB := Aside0.mk (Below.refl w.heap.size w)
  have z1 : ((l0.length : Int) == 0) = false := by simp; intro h; rw [h] at h0; simp at h0
  have z2 : ((l0.length : Int) == 1) = true := by rw [h1]; rfl
  have z4 : decide (0 < (l0.length : Int)) = true := decide_eq_true (by omega)
  have z5 : wrap64 (rd l0 0) = rd l0 0 := by unfold wrap64; omega
  have z6 : decide (7 < rd l0 0) = false := decide_eq_false (by omega)
  have z7 : decide (0 < rd l0 0) = true := decide_eq_true (by omega)
  obtain ⟨ad, e1, hx1⟩ := Kd.at_int hr0 0 (by omega) (by omega)
  subst e1
  have qi : (0 < l0.length) = True := eq_true h0
  (try rw [show ((0 : Int)).toNat = 0 from rfl] at hx1)
  (try rw [Addr.add_zero'] at hx1)
  have hb1 := eq_true hbb.1
  clear hl h0 hr0 hbb h7 h1 h2
  go_enter Try.func49, Try.ntmps49
  go_wp2_with (first | ((with_reducible refine gate_dst (N := 2) rfl ?_); (try (refine gate_guard (by rfl) ?_; dsimp only)); refine box_event ?hg (N := 2) ?hd (cs := #[.slice none 0 0, .int .i64 0]) (t := 63) ?hr ?_; (case hd => rfl); (case hg => rfl); (case hr => first | (go_simp; done) | (go_simp; rfl)); intro gb hg w3 hbox hb; have BK := Aside0.mk hbox; have HB2 := Aside0.mk (below_step HB.out hb); have GE := Aside0.mk ((by rw [hg]; exact HB.out.size) : w.heap.size ≤ gb); have hc0 := (blk_cell BK.out 0).trans (show _ = some (.slice none 0 0) from rfl); have hc1 := (blk_cell BK.out 1).trans (show _ = some (.int .i64 0) from rfl); have hf0 := blk_frozen BK.out 0; have hf1 := blk_frozen BK.out 1; have hy1 := pw_cell_below HB2.out hx1; clear hbox hb; clear hg))
  repeat (go_quiet (fail))
  go_wp2
  refine bodyPost_ret (results_ct rfl _ _ gb 63 #[.slice none 0 0, .int .i64 0] (0, 0) _ rfl (by (with_reducible repeat (first | refine blk_drewN ?_ _ | refine blk_drew ?_ | refine blk_alloc ?_ _)); exact BK.out) Try.underlying63 rfl (by kernel_rfl)) rfl ?_
  exact ⟨_, _, rfl, by repeat (first | (with_reducible first | exact HB2.out | apply below_alloc | apply pw_below_drewN | apply below_drew1 | refine below_set ?_ GE.out) | exact HB2.out)⟩

set_option maxHeartbeats 8000000 in
set_option maxRecDepth 100000 in
theorem parseBits_badOne (A0 : Option Addr) (c0 : Nat) (l0 : List Int) (w : World) (hr0 : Kd.C (Kd.int .u8) w A0 l0.length l0) (hbb : 0 ≤ rd l0 0 ∧ rd l0 0 ≤ 255) (hl : l0.length ≤ 10000) (h0 : 0 < l0.length) (h7 : rd l0 0 ≤ 7) (h1 : l0.length = 1) (h2 : rd l0 0 ≤ 0) (hz : bitsRest l0 ≠ 0) : Calls Try.prog 49 #[.slice A0 l0.length c0] w (BitsBad w) := by
  have hu1 := Try.underlying63
  have hu2 := Try.underlying87
  obtain ⟨A1, hA1, hcut0⟩ : ∃ A1, A1 = (if c0 = 1 then A0 else A0.map (·.add 1)) ∧ ∀ W : World, (Instr.slice 22 (.slice A0 l0.length c0) (some (.int .i64 1)) none none).run Try.prog W = .ok (.slice A1 (l0.length - 1) (c0 - 1)) W := ⟨_, rfl, cut_one_ A0 l0.length c0 (by omega)⟩
  have HA := Aside0.mk hA1
  have hcut := Aside0.mk hcut0
  clear hA1 hcut0
  have HB := Aside0.mk (Below.refl w.heap.size w)
  have z1 : ((l0.length : Int) == 0) = false := by simp; intro h; rw [h] at h0; simp at h0
  have z2 : ((l0.length : Int) == 1) = true := by rw [h1]; rfl
  have z4 : decide (0 < (l0.length : Int)) = true := decide_eq_true (by omega)
  have z5 : wrap64 (rd l0 0) = rd l0 0 := by unfold wrap64; omega
  have z6 : decide (7 < rd l0 0) = false := decide_eq_false (by omega)
  have z7 : decide (0 < rd l0 0) = false := decide_eq_false (by omega)
  obtain ⟨ji, hji⟩ : ∃ j_ : Int, (wrap64 ((l0.length : Int) - 1)) = j_ := ⟨_, rfl⟩
  have hji0 : ji = (l0.length : Int) - 1 := by rw [← hji]; unfold wrap64; omega
  have hjiw : (IntKind.i64.wrap ((l0.length : Int) - 1)) = ji := (i64_w _).trans hji
  have p2 : 0 ≤ ji := by omega
  have q2 : ji < (l0.length : Int) := by omega
  have HE := Aside0.mk (show wrap64 (wrap64 (ji * 8) - rd l0 0) = 8 * ((l0.length : Int) - 1) - rd l0 0 by unfold wrap64; omega)
  unfold bitsRest at hz
  rw [hji] at hz
  obtain ⟨sh, hsh⟩ : ∃ j_ : Int, (shl .u8 1 (rd l0 0)) = j_ := ⟨_, rfl⟩
  rw [hsh] at hz
  have hsh_ : (IntKind.u8.wrap (1 * 2 ^ min (rd l0 0).toNat 8)) = sh := hsh
  have hshz : (IntKind.u8.wrap (1 * 2 ^ (rd l0 0).toNat)) = sh := shl_small hsh (show rd l0 0 ≤ 8 by omega)
  have hshu : (IntKind.u8.wrap (2 ^ min (rd l0 0).toNat 8)) = sh := by have h_ := hsh_; rw [Int.one_mul] at h_; exact h_
  have hshv : (IntKind.u8.wrap (2 ^ (rd l0 0).toNat)) = sh := by have h_ := hshz; rw [Int.one_mul] at h_; exact h_
  have zp : decide (0 ≤ rd l0 0) = true := decide_eq_true hbb.1
  have zz1 : ((Go.bits .and .u8 (rd l0 (ji)) (((sh) - 1) % 256)) == 0) = false := beq_eq_false_iff_ne.mpr hz
  have zz2 : ((Go.bits .and .u8 (rd l0 (ji)) (((sh) - 1) % 256)) != 0) = true := bne_iff_ne.mpr hz
  obtain ⟨ad, e1, hx1⟩ := Kd.at_int hr0 0 (by omega) (by omega)
  obtain ⟨ad2, e2, hx2⟩ := Kd.at_int hr0 ji p2 q2
  subst e1
  obtain rfl : ad = ad2 := by injection e2
  have qi : (0 < l0.length) = True := eq_true h0
  (try rw [show ((0 : Int)).toNat = 0 from rfl] at hx1)
  (try rw [Addr.add_zero'] at hx1)
  replace p2 := eq_true p2
  replace q2 := eq_true q2
  have hb1 := eq_true hbb.1
  clear h2 hji0 h1 hl h0 hr0 hbb h7 hz e2 hsh
  go_enter Try.func49, Try.ntmps49
  go_wp2_with (first | ((with_reducible refine gate_dst (N := 2) rfl ?_); (try (refine gate_guard (by rfl) ?_; dsimp only)); refine box_event ?hg (N := 2) ?hd (cs := #[.slice none 0 0, .int .i64 0]) (t := 63) ?hr ?_; (case hd => rfl); (case hg => rfl); (case hr => first | (go_simp; done) | (go_simp; rfl)); intro gb hg w3 hbox hb; have BK := Aside0.mk hbox; have HB2 := Aside0.mk (below_step HB.out hb); have GE := Aside0.mk ((by rw [hg]; exact HB.out.size) : w.heap.size ≤ gb); have hc0 := (blk_cell BK.out 0).trans (show _ = some (.slice none 0 0) from rfl); have hc1 := (blk_cell BK.out 1).trans (show _ = some (.int .i64 0) from rfl); have hf0 := blk_frozen BK.out 0; have hf1 := blk_frozen BK.out 1; have hy1 := pw_cell_below HB2.out hx1; have hy2 := pw_cell_below HB2.out hx2; clear hbox hb; clear hg))
  repeat (go_quiet (fail))
  go_wp2
  refine bodyPost_ret (results_ct rfl _ _ gb 63 #[.slice none 0 0, .int .i64 0] (0, 0) _ rfl (by (with_reducible repeat (first | refine blk_drewN ?_ _ | refine blk_drew ?_ | refine blk_alloc ?_ _)); exact BK.out) Try.underlying63 rfl (by kernel_rfl)) rfl ?_
  exact ⟨_, _, rfl, by repeat (first | (with_reducible first | exact HB2.out | apply below_alloc | apply pw_below_drewN | apply below_drew1 | refine below_set ?_ GE.out) | exact HB2.out)⟩

set_option maxHeartbeats 8000000 in
set_option maxRecDepth 100000 in
theorem parseBits_goodOne (A0 : Option Addr) (c0 : Nat) (l0 : List Int) (w : World) (hr0 : Kd.C (Kd.int .u8) w A0 l0.length l0) (hbb : 0 ≤ rd l0 0 ∧ rd l0 0 ≤ 255) (hl : l0.length ≤ 10000) (h0 : 0 < l0.length) (h7 : rd l0 0 ≤ 7) (h1 : l0.length = 1) (h2 : rd l0 0 ≤ 0) (hz : bitsRest l0 = 0) : Calls Try.prog 49 #[.slice A0 l0.length c0] w (BitsGood w A0 c0 l0) := by
  have hu1 := Try.underlying63
  have hu2 := Try.underlying87
  obtain ⟨A1, hA1, hcut0⟩ : ∃ A1, A1 = (if c0 = 1 then A0 else A0.map (·.add 1)) ∧ ∀ W : World, (Instr.slice 22 (.slice A0 l0.length c0) (some (.int .i64 1)) none none).run Try.prog W = .ok (.slice A1 (l0.length - 1) (c0 - 1)) W := ⟨_, rfl, cut_one_ A0 l0.length c0 (by omega)⟩
  have HA := Aside0.mk hA1
  have hcut := Aside0.mk hcut0
  clear hA1 hcut0
  have HB := Aside0.mk (Below.refl w.heap.size w)
  have z1 : ((l0.length : Int) == 0) = false := by simp; intro h; rw [h] at h0; simp at h0
  have z2 : ((l0.length : Int) == 1) = true := by rw [h1]; rfl
  have z4 : decide (0 < (l0.length : Int)) = true := decide_eq_true (by omega)
  have z5 : wrap64 (rd l0 0) = rd l0 0 := by unfold wrap64; omega
  have z6 : decide (7 < rd l0 0) = false := decide_eq_false (by omega)
  have z7 : decide (0 < rd l0 0) = false := decide_eq_false (by omega)
  obtain ⟨ji, hji⟩ : ∃ j_ : Int, (wrap64 ((l0.length : Int) - 1)) = j_ := ⟨_, rfl⟩
  have hji0 : ji = (l0.length : Int) - 1 := by rw [← hji]; unfold wrap64; omega
  have hjiw : (IntKind.i64.wrap ((l0.length : Int) - 1)) = ji := (i64_w _).trans hji
  have p2 : 0 ≤ ji := by omega
  have q2 : ji < (l0.length : Int) := by omega
  have HE := Aside0.mk (show wrap64 (wrap64 (ji * 8) - rd l0 0) = 8 * ((l0.length : Int) - 1) - rd l0 0 by unfold wrap64; omega)
  unfold bitsRest at hz
  rw [hji] at hz
  obtain ⟨sh, hsh⟩ : ∃ j_ : Int, (shl .u8 1 (rd l0 0)) = j_ := ⟨_, rfl⟩
  rw [hsh] at hz
  have hsh_ : (IntKind.u8.wrap (1 * 2 ^ min (rd l0 0).toNat 8)) = sh := hsh
  have hshz : (IntKind.u8.wrap (1 * 2 ^ (rd l0 0).toNat)) = sh := shl_small hsh (show rd l0 0 ≤ 8 by omega)
  have hshu : (IntKind.u8.wrap (2 ^ min (rd l0 0).toNat 8)) = sh := by have h_ := hsh_; rw [Int.one_mul] at h_; exact h_
  have hshv : (IntKind.u8.wrap (2 ^ (rd l0 0).toNat)) = sh := by have h_ := hshz; rw [Int.one_mul] at h_; exact h_
  have zp : decide (0 ≤ rd l0 0) = true := decide_eq_true hbb.1
  have zz1 : ((Go.bits .and .u8 (rd l0 (ji)) (((sh) - 1) % 256)) == 0) = true := beq_iff_eq.mpr hz
  have zz2 : ((Go.bits .and .u8 (rd l0 (ji)) (((sh) - 1) % 256)) != 0) = false := bne_eq_false_iff_eq.mpr hz
  obtain ⟨ad, e1, hx1⟩ := Kd.at_int hr0 0 (by omega) (by omega)
  obtain ⟨ad2, e2, hx2⟩ := Kd.at_int hr0 ji p2 q2
  subst e1
  obtain rfl : ad = ad2 := by injection e2
  have qi : (0 < l0.length) = True := eq_true h0
  (try rw [show ((0 : Int)).toNat = 0 from rfl] at hx1)
  (try rw [Addr.add_zero'] at hx1)
  replace p2 := eq_true p2
  replace q2 := eq_true q2
  have hb1 := eq_true hbb.1
  clear h2 hji0 h1 hl h0 hr0 hbb h7 hz e2 hsh
  go_enter Try.func49, Try.ntmps49
  go_wp2_with (first | ((with_reducible refine gate_dst (N := 2) rfl ?_); (try (refine gate_guard (by rfl) ?_; dsimp only)); refine box_event ?hg (N := 2) ?hd (cs := #[.slice none 0 0, .int .i64 0]) (t := 63) ?hr ?_; (case hd => rfl); (case hg => rfl); (case hr => first | (go_simp; done) | (go_simp; rfl)); intro gb hg w3 hbox hb; have BK := Aside0.mk hbox; have HB2 := Aside0.mk (below_step HB.out hb); have GE := Aside0.mk ((by rw [hg]; exact HB.out.size) : w.heap.size ≤ gb); have hc0 := (blk_cell BK.out 0).trans (show _ = some (.slice none 0 0) from rfl); have hc1 := (blk_cell BK.out 1).trans (show _ = some (.int .i64 0) from rfl); have hf0 := blk_frozen BK.out 0; have hf1 := blk_frozen BK.out 1; have hcut1 := hcut.out; have hy1 := pw_cell_below HB2.out hx1; have hy2 := pw_cell_below HB2.out hx2; clear hbox hb; clear hg))
  repeat (go_quiet (fail))
  go_wp2
  refine bodyPost_ret (results_ct rfl _ _ gb 63 #[.slice A1 (l0.length - 1) (c0 - 1), .int .i64 (8 * ((l0.length : Int) - 1) - rd l0 0)] (0, 0) _ rfl (by (with_reducible repeat (first | refine blk_drewN ?_ _ | refine blk_drew ?_ | refine blk_alloc ?_ _)); refine blk_put (cs := #[.slice none 0 0, .int .i64 (8 * ((l0.length : Int) - 1) - rd l0 0)]) ?_ 0 _ rfl; (with_reducible repeat (first | refine blk_drewN ?_ _ | refine blk_drew ?_ | refine blk_alloc ?_ _)); (try rw [HE.out]); refine blk_put (cs := #[.slice none 0 0, .int .i64 0]) ?_ 1 _ rfl; (with_reducible repeat (first | refine blk_drewN ?_ _ | refine blk_drew ?_ | refine blk_alloc ?_ _)); exact BK.out) Try.underlying63 rfl (by kernel_rfl)) rfl ?_
  exact ⟨by have h_ := HA.out; subst h_; rfl, by repeat (first | (with_reducible first | exact HB2.out | apply below_alloc | apply pw_below_drewN | apply below_drew1 | refine below_set ?_ GE.out) | exact HB2.out)⟩

set_option maxHeartbeats 8000000 in
set_option maxRecDepth 100000 in
theorem parseBits_badMoreP (A0 : Option Addr) (c0 : Nat) (l0 : List Int) (w : World) (hr0 : Kd.C (Kd.int .u8) w A0 l0.length l0) (hbb : 0 ≤ rd l0 0 ∧ rd l0 0 ≤ 255) (hl : l0.length ≤ 10000) (h0 : 0 < l0.length) (h7 : rd l0 0 ≤ 7) (h1 : l0.length ≠ 1) (h2 : 0 < rd l0 0) (hz : bitsRest l0 ≠ 0) : Calls Try.prog 49 #[.slice A0 l0.length c0] w (BitsBad w) := by
  have hu1 := Try.underlying63
  have hu2 := Try.underlying87
  obtain ⟨A1, hA1, hcut0⟩ : ∃ A1, A1 = (if c0 = 1 then A0 else A0.map (·.add 1)) ∧ ∀ W : World, (Instr.slice 22 (.slice A0 l0.length c0) (some (.int .i64 1)) none none).run Try.prog W = .ok (.slice A1 (l0.length - 1) (c0 - 1)) W := ⟨_, rfl, cut_one_ A0 l0.length c0 (by omega)⟩
  have HA := Aside0.mk hA1
  have hcut := Aside0.mk hcut0
  clear hA1 hcut0
  have HB := Aside0.mk (Below.refl w.heap.size w)
  have z1 : ((l0.length : Int) == 0) = false := by simp; intro h; rw [h] at h0; simp at h0
  have z2 : ((l0.length : Int) == 1) = false := by simp; omega
  have z4 : decide (0 < (l0.length : Int)) = true := decide_eq_true (by omega)
  have z5 : wrap64 (rd l0 0) = rd l0 0 := by unfold wrap64; omega
  have z6 : decide (7 < rd l0 0) = false := decide_eq_false (by omega)
  have z7 : decide (0 < rd l0 0) = true := decide_eq_true (by omega)
  obtain ⟨ji, hji⟩ : ∃ j_ : Int, (wrap64 ((l0.length : Int) - 1)) = j_ := ⟨_, rfl⟩
  have hji0 : ji = (l0.length : Int) - 1 := by rw [← hji]; unfold wrap64; omega
  have hjiw : (IntKind.i64.wrap ((l0.length : Int) - 1)) = ji := (i64_w _).trans hji
  have p2 : 0 ≤ ji := by omega
  have q2 : ji < (l0.length : Int) := by omega
  have HE := Aside0.mk (show wrap64 (wrap64 (ji * 8) - rd l0 0) = 8 * ((l0.length : Int) - 1) - rd l0 0 by unfold wrap64; omega)
  unfold bitsRest at hz
  rw [hji] at hz
  obtain ⟨sh, hsh⟩ : ∃ j_ : Int, (shl .u8 1 (rd l0 0)) = j_ := ⟨_, rfl⟩
  rw [hsh] at hz
  have hsh_ : (IntKind.u8.wrap (1 * 2 ^ min (rd l0 0).toNat 8)) = sh := hsh
  have hshz : (IntKind.u8.wrap (1 * 2 ^ (rd l0 0).toNat)) = sh := shl_small hsh (show rd l0 0 ≤ 8 by omega)
  have hshu : (IntKind.u8.wrap (2 ^ min (rd l0 0).toNat 8)) = sh := by have h_ := hsh_; rw [Int.one_mul] at h_; exact h_
  have hshv : (IntKind.u8.wrap (2 ^ (rd l0 0).toNat)) = sh := by have h_ := hshz; rw [Int.one_mul] at h_; exact h_
  have zp : decide (0 ≤ rd l0 0) = true := decide_eq_true hbb.1
  have zz1 : ((Go.bits .and .u8 (rd l0 (ji)) (((sh) - 1) % 256)) == 0) = false := beq_eq_false_iff_ne.mpr hz
  have zz2 : ((Go.bits .and .u8 (rd l0 (ji)) (((sh) - 1) % 256)) != 0) = true := bne_iff_ne.mpr hz
  obtain ⟨ad, e1, hx1⟩ := Kd.at_int hr0 0 (by omega) (by omega)
  obtain ⟨ad2, e2, hx2⟩ := Kd.at_int hr0 ji p2 q2
  subst e1
  obtain rfl : ad = ad2 := by injection e2
  have qi : (0 < l0.length) = True := eq_true h0
  (try rw [show ((0 : Int)).toNat = 0 from rfl] at hx1)
  (try rw [Addr.add_zero'] at hx1)
  replace p2 := eq_true p2
  replace q2 := eq_true q2
  have hb1 := eq_true hbb.1
  clear h2 hji0 h1 hl h0 hr0 hbb h7 hz e2 hsh
  go_enter Try.func49, Try.ntmps49
  go_wp2_with (first | ((with_reducible refine gate_dst (N := 2) rfl ?_); (try (refine gate_guard (by rfl) ?_; dsimp only)); refine box_event ?hg (N := 2) ?hd (cs := #[.slice none 0 0, .int .i64 0]) (t := 63) ?hr ?_; (case hd => rfl); (case hg => rfl); (case hr => first | (go_simp; done) | (go_simp; rfl)); intro gb hg w3 hbox hb; have BK := Aside0.mk hbox; have HB2 := Aside0.mk (below_step HB.out hb); have GE := Aside0.mk ((by rw [hg]; exact HB.out.size) : w.heap.size ≤ gb); have hc0 := (blk_cell BK.out 0).trans (show _ = some (.slice none 0 0) from rfl); have hc1 := (blk_cell BK.out 1).trans (show _ = some (.int .i64 0) from rfl); have hf0 := blk_frozen BK.out 0; have hf1 := blk_frozen BK.out 1; have hy1 := pw_cell_below HB2.out hx1; have hy2 := pw_cell_below HB2.out hx2; clear hbox hb; clear hg))
  repeat (go_quiet (fail))
  go_wp2
  refine bodyPost_ret (results_ct rfl _ _ gb 63 #[.slice none 0 0, .int .i64 0] (0, 0) _ rfl (by (with_reducible repeat (first | refine blk_drewN ?_ _ | refine blk_drew ?_ | refine blk_alloc ?_ _)); exact BK.out) Try.underlying63 rfl (by kernel_rfl)) rfl ?_
  exact ⟨_, _, rfl, by repeat (first | (with_reducible first | exact HB2.out | apply below_alloc | apply pw_below_drewN | apply below_drew1 | refine below_set ?_ GE.out) | exact HB2.out)⟩

set_option maxHeartbeats 8000000 in
set_option maxRecDepth 100000 in
theorem parseBits_goodMoreP (A0 : Option Addr) (c0 : Nat) (l0 : List Int) (w : World) (hr0 : Kd.C (Kd.int .u8) w A0 l0.length l0) (hbb : 0 ≤ rd l0 0 ∧ rd l0 0 ≤ 255) (hl : l0.length ≤ 10000) (h0 : 0 < l0.length) (h7 : rd l0 0 ≤ 7) (h1 : l0.length ≠ 1) (h2 : 0 < rd l0 0) (hz : bitsRest l0 = 0) : Calls Try.prog 49 #[.slice A0 l0.length c0] w (BitsGood w A0 c0 l0) := by
  have hu1 := Try.underlying63
  have hu2 := Try.underlying87
  obtain ⟨A1, hA1, hcut0⟩ : ∃ A1, A1 = (if c0 = 1 then A0 else A0.map (·.add 1)) ∧ ∀ W : World, (Instr.slice 22 (.slice A0 l0.length c0) (some (.int .i64 1)) none none).run Try.prog W = .ok (.slice A1 (l0.length - 1) (c0 - 1)) W := ⟨_, rfl, cut_one_ A0 l0.length c0 (by omega)⟩
  have HA := Aside0.mk hA1
  have hcut := Aside0.mk hcut0
  clear hA1 hcut0
  have HB := Aside0.mk (Below.refl w.heap.size w)
  have z1 : ((l0.length : Int) == 0) = false := by simp; intro h; rw [h] at h0; simp at h0
  have z2 : ((l0.length : Int) == 1) = false := by simp; omega
  have z4 : decide (0 < (l0.length : Int)) = true := decide_eq_true (by omega)
  have z5 : wrap64 (rd l0 0) = rd l0 0 := by unfold wrap64; omega
  have z6 : decide (7 < rd l0 0) = false := decide_eq_false (by omega)
  have z7 : decide (0 < rd l0 0) = true := decide_eq_true (by omega)
  obtain ⟨ji, hji⟩ : ∃ j_ : Int, (wrap64 ((l0.length : Int) - 1)) = j_ := ⟨_, rfl⟩
  have hji0 : ji = (l0.length : Int) - 1 := by rw [← hji]; unfold wrap64; omega
  have hjiw : (IntKind.i64.wrap ((l0.length : Int) - 1)) = ji := (i64_w _).trans hji
  have p2 : 0 ≤ ji := by omega
  have q2 : ji < (l0.length : Int) := by omega
  have HE := Aside0.mk (show wrap64 (wrap64 (ji * 8) - rd l0 0) = 8 * ((l0.length : Int) - 1) - rd l0 0 by unfold wrap64; omega)
  unfold bitsRest at hz
  rw [hji] at hz
  obtain ⟨sh, hsh⟩ : ∃ j_ : Int, (shl .u8 1 (rd l0 0)) = j_ := ⟨_, rfl⟩
  rw [hsh] at hz
  have hsh_ : (IntKind.u8.wrap (1 * 2 ^ min (rd l0 0).toNat 8)) = sh := hsh
  have hshz : (IntKind.u8.wrap (1 * 2 ^ (rd l0 0).toNat)) = sh := shl_small hsh (show rd l0 0 ≤ 8 by omega)
  have hshu : (IntKind.u8.wrap (2 ^ min (rd l0 0).toNat 8)) = sh := by have h_ := hsh_; rw [Int.one_mul] at h_; exact h_
  have hshv : (IntKind.u8.wrap (2 ^ (rd l0 0).toNat)) = sh := by have h_ := hshz; rw [Int.one_mul] at h_; exact h_
  have zp : decide (0 ≤ rd l0 0) = true := decide_eq_true hbb.1
  have zz1 : ((Go.bits .and .u8 (rd l0 (ji)) (((sh) - 1) % 256)) == 0) = true := beq_iff_eq.mpr hz
  have zz2 : ((Go.bits .and .u8 (rd l0 (ji)) (((sh) - 1) % 256)) != 0) = false := bne_eq_false_iff_eq.mpr hz
  obtain ⟨ad, e1, hx1⟩ := Kd.at_int hr0 0 (by omega) (by omega)
  obtain ⟨ad2, e2, hx2⟩ := Kd.at_int hr0 ji p2 q2
  subst e1
  obtain rfl : ad = ad2 := by injection e2
  have qi : (0 < l0.length) = True := eq_true h0
  (try rw [show ((0 : Int)).toNat = 0 from rfl] at hx1)
  (try rw [Addr.add_zero'] at hx1)
  replace p2 := eq_true p2
  replace q2 := eq_true q2
  have hb1 := eq_true hbb.1
  clear h2 hji0 h1 hl h0 hr0 hbb h7 hz e2 hsh
  go_enter Try.func49, Try.ntmps49
  go_wp2_with (first | ((with_reducible refine gate_dst (N := 2) rfl ?_); (try (refine gate_guard (by rfl) ?_; dsimp only)); refine box_event ?hg (N := 2) ?hd (cs := #[.slice none 0 0, .int .i64 0]) (t := 63) ?hr ?_; (case hd => rfl); (case hg => rfl); (case hr => first | (go_simp; done) | (go_simp; rfl)); intro gb hg w3 hbox hb; have BK := Aside0.mk hbox; have HB2 := Aside0.mk (below_step HB.out hb); have GE := Aside0.mk ((by rw [hg]; exact HB.out.size) : w.heap.size ≤ gb); have hc0 := (blk_cell BK.out 0).trans (show _ = some (.slice none 0 0) from rfl); have hc1 := (blk_cell BK.out 1).trans (show _ = some (.int .i64 0) from rfl); have hf0 := blk_frozen BK.out 0; have hf1 := blk_frozen BK.out 1; have hcut1 := hcut.out; have hy1 := pw_cell_below HB2.out hx1; have hy2 := pw_cell_below HB2.out hx2; clear hbox hb; clear hg))
  repeat (go_quiet (fail))
  go_wp2
  refine bodyPost_ret (results_ct rfl _ _ gb 63 #[.slice A1 (l0.length - 1) (c0 - 1), .int .i64 (8 * ((l0.length : Int) - 1) - rd l0 0)] (0, 0) _ rfl (by (with_reducible repeat (first | refine blk_drewN ?_ _ | refine blk_drew ?_ | refine blk_alloc ?_ _)); refine blk_put (cs := #[.slice none 0 0, .int .i64 (8 * ((l0.length : Int) - 1) - rd l0 0)]) ?_ 0 _ rfl; (with_reducible repeat (first | refine blk_drewN ?_ _ | refine blk_drew ?_ | refine blk_alloc ?_ _)); (try rw [HE.out]); refine blk_put (cs := #[.slice none 0 0, .int .i64 0]) ?_ 1 _ rfl; (with_reducible repeat (first | refine blk_drewN ?_ _ | refine blk_drew ?_ | refine blk_alloc ?_ _)); exact BK.out) Try.underlying63 rfl (by kernel_rfl)) rfl ?_
  exact ⟨by have h_ := HA.out; subst h_; rfl, by repeat (first | (with_reducible first | exact HB2.out | apply below_alloc | apply pw_below_drewN | apply below_drew1 | refine below_set ?_ GE.out) | exact HB2.out)⟩

set_option maxHeartbeats 8000000 in
set_option maxRecDepth 100000 in
theorem parseBits_badMoreN (A0 : Option Addr) (c0 : Nat) (l0 : List Int) (w : World) (hr0 : Kd.C (Kd.int .u8) w A0 l0.length l0) (hbb : 0 ≤ rd l0 0 ∧ rd l0 0 ≤ 255) (hl : l0.length ≤ 10000) (h0 : 0 < l0.length) (h7 : rd l0 0 ≤ 7) (h1 : l0.length ≠ 1) (h2 : rd l0 0 ≤ 0) (hz : bitsRest l0 ≠ 0) : Calls Try.prog 49 #[.slice A0 l0.length c0] w (BitsBad w) := by
  have hu1 := Try.underlying63
  have hu2 := Try.underlying87
  obtain ⟨A1, hA1, hcut0⟩ : ∃ A1, A1 = (if c0 = 1 then A0 else A0.map (·.add 1)) ∧ ∀ W : World, (Instr.slice 22 (.slice A0 l0.length c0) (some (.int .i64 1)) none none).run Try.prog W = .ok (.slice A1 (l0.length - 1) (c0 - 1)) W := ⟨_, rfl, cut_one_ A0 l0.length c0 (by omega)⟩
  have HA := Aside0.mk hA1
  have hcut := Aside0.mk hcut0
  clear hA1 hcut0
  have HB := Aside0.mk (Below.refl w.heap.size w)
  have z1 : ((l0.length : Int) == 0) = false := by simp; intro h; rw [h] at h0; simp at h0
  have z2 : ((l0.length : Int) == 1) = false := by simp; omega
  have z4 : decide (0 < (l0.length : Int)) = true := decide_eq_true (by omega)
  have z5 : wrap64 (rd l0 0) = rd l0 0 := by unfold wrap64; omega
  have z6 : decide (7 < rd l0 0) = false := decide_eq_false (by omega)
  have z7 : decide (0 < rd l0 0) = false := decide_eq_false (by omega)
  obtain ⟨ji, hji⟩ : ∃ j_ : Int, (wrap64 ((l0.length : Int) - 1)) = j_ := ⟨_, rfl⟩
  have hji0 : ji = (l0.length : Int) - 1 := by rw [← hji]; unfold wrap64; omega
  have hjiw : (IntKind.i64.wrap ((l0.length : Int) - 1)) = ji := (i64_w _).trans hji
  have p2 : 0 ≤ ji := by omega
  have q2 : ji < (l0.length : Int) := by omega
  have HE := Aside0.mk (show wrap64 (wrap64 (ji * 8) - rd l0 0) = 8 * ((l0.length : Int) - 1) - rd l0 0 by unfold wrap64; omega)
  unfold bitsRest at hz
  rw [hji] at hz
  obtain ⟨sh, hsh⟩ : ∃ j_ : Int, (shl .u8 1 (rd l0 0)) = j_ := ⟨_, rfl⟩
  rw [hsh] at hz
  have hsh_ : (IntKind.u8.wrap (1 * 2 ^ min (rd l0 0).toNat 8)) = sh := hsh
  have hshz : (IntKind.u8.wrap (1 * 2 ^ (rd l0 0).toNat)) = sh := shl_small hsh (show rd l0 0 ≤ 8 by omega)
  have hshu : (IntKind.u8.wrap (2 ^ min (rd l0 0).toNat 8)) = sh := by have h_ := hsh_; rw [Int.one_mul] at h_; exact h_
  have hshv : (IntKind.u8.wrap (2 ^ (rd l0 0).toNat)) = sh := by have h_ := hshz; rw [Int.one_mul] at h_; exact h_
  have zp : decide (0 ≤ rd l0 0) = true := decide_eq_true hbb.1
  have zz1 : ((Go.bits .and .u8 (rd l0 (ji)) (((sh) - 1) % 256)) == 0) = false := beq_eq_false_iff_ne.mpr hz
  have zz2 : ((Go.bits .and .u8 (rd l0 (ji)) (((sh) - 1) % 256)) != 0) = true := bne_iff_ne.mpr hz
  obtain ⟨ad, e1, hx1⟩ := Kd.at_int hr0 0 (by omega) (by omega)
  obtain ⟨ad2, e2, hx2⟩ := Kd.at_int hr0 ji p2 q2
  subst e1
  obtain rfl : ad = ad2 := by injection e2
  have qi : (0 < l0.length) = True := eq_true h0
  (try rw [show ((0 : Int)).toNat = 0 from rfl] at hx1)
  (try rw [Addr.add_zero'] at hx1)
  replace p2 := eq_true p2
  replace q2 := eq_true q2
  have hb1 := eq_true hbb.1
  clear h2 hji0 h1 hl h0 hr0 hbb h7 hz e2 hsh
  go_enter Try.func49, Try.ntmps49
  go_wp2_with (first | ((with_reducible refine gate_dst (N := 2) rfl ?_); (try (refine gate_guard (by rfl) ?_; dsimp only)); refine box_event ?hg (N := 2) ?hd (cs := #[.slice none 0 0, .int .i64 0]) (t := 63) ?hr ?_; (case hd => rfl); (case hg => rfl); (case hr => first | (go_simp; done) | (go_simp; rfl)); intro gb hg w3 hbox hb; have BK := Aside0.mk hbox; have HB2 := Aside0.mk (below_step HB.out hb); have GE := Aside0.mk ((by rw [hg]; exact HB.out.size) : w.heap.size ≤ gb); have hc0 := (blk_cell BK.out 0).trans (show _ = some (.slice none 0 0) from rfl); have hc1 := (blk_cell BK.out 1).trans (show _ = some (.int .i64 0) from rfl); have hf0 := blk_frozen BK.out 0; have hf1 := blk_frozen BK.out 1; have hy1 := pw_cell_below HB2.out hx1; have hy2 := pw_cell_below HB2.out hx2; clear hbox hb; clear hg))
  repeat (go_quiet (fail))
  go_wp2
  refine bodyPost_ret (results_ct rfl _ _ gb 63 #[.slice none 0 0, .int .i64 0] (0, 0) _ rfl (by (with_reducible repeat (first | refine blk_drewN ?_ _ | refine blk_drew ?_ | refine blk_alloc ?_ _)); exact BK.out) Try.underlying63 rfl (by kernel_rfl)) rfl ?_
  exact ⟨_, _, rfl, by repeat (first | (with_reducible first | exact HB2.out | apply below_alloc | apply pw_below_drewN | apply below_drew1 | refine below_set ?_ GE.out) | exact HB2.out)⟩

set_option maxHeartbeats 8000000 in
set_option maxRecDepth 100000 in
theorem parseBits_goodMoreN (A0 : Option Addr) (c0 : Nat) (l0 : List Int) (w : World) (hr0 : Kd.C (Kd.int .u8) w A0 l0.length l0) (hbb : 0 ≤ rd l0 0 ∧ rd l0 0 ≤ 255) (hl : l0.length ≤ 10000) (h0 : 0 < l0.length) (h7 : rd l0 0 ≤ 7) (h1 : l0.length ≠ 1) (h2 : rd l0 0 ≤ 0) (hz : bitsRest l0 = 0) : Calls Try.prog 49 #[.slice A0 l0.length c0] w (BitsGood w A0 c0 l0) := by
  have hu1 := Try.underlying63
  have hu2 := Try.underlying87
  obtain ⟨A1, hA1, hcut0⟩ : ∃ A1, A1 = (if c0 = 1 then A0 else A0.map (·.add 1)) ∧ ∀ W : World, (Instr.slice 22 (.slice A0 l0.length c0) (some (.int .i64 1)) none none).run Try.prog W = .ok (.slice A1 (l0.length - 1) (c0 - 1)) W := ⟨_, rfl, cut_one_ A0 l0.length c0 (by omega)⟩
  have HA := Aside0.mk hA1
  have hcut := Aside0.mk hcut0
  clear hA1 hcut0
  have HB := Aside0.mk (Below.refl w.heap.size w)
  have z1 : ((l0.length : Int) == 0) = false := by simp; intro h; rw [h] at h0; simp at h0
  have z2 : ((l0.length : Int) == 1) = false := by simp; omega
  have z4 : decide (0 < (l0.length : Int)) = true := decide_eq_true (by omega)
  have z5 : wrap64 (rd l0 0) = rd l0 0 := by unfold wrap64; omega
  have z6 : decide (7 < rd l0 0) = false := decide_eq_false (by omega)
  have z7 : decide (0 < rd l0 0) = false := decide_eq_false (by omega)
  obtain ⟨ji, hji⟩ : ∃ j_ : Int, (wrap64 ((l0.length : Int) - 1)) = j_ := ⟨_, rfl⟩
  have hji0 : ji = (l0.length : Int) - 1 := by rw [← hji]; unfold wrap64; omega
  have hjiw : (IntKind.i64.wrap ((l0.length : Int) - 1)) = ji := (i64_w _).trans hji
  have p2 : 0 ≤ ji := by omega
  have q2 : ji < (l0.length : Int) := by omega
  have HE := Aside0.mk (show wrap64 (wrap64 (ji * 8) - rd l0 0) = 8 * ((l0.length : Int) - 1) - rd l0 0 by unfold wrap64; omega)
  unfold bitsRest at hz
  rw [hji] at hz
  obtain ⟨sh, hsh⟩ : ∃ j_ : Int, (shl .u8 1 (rd l0 0)) = j_ := ⟨_, rfl⟩
  rw [hsh] at hz
  have hsh_ : (IntKind.u8.wrap (1 * 2 ^ min (rd l0 0).toNat 8)) = sh := hsh
  have hshz : (IntKind.u8.wrap (1 * 2 ^ (rd l0 0).toNat)) = sh := shl_small hsh (show rd l0 0 ≤ 8 by omega)
  have hshu : (IntKind.u8.wrap (2 ^ min (rd l0 0).toNat 8)) = sh := by have h_ := hsh_; rw [Int.one_mul] at h_; exact h_
  have hshv : (IntKind.u8.wrap (2 ^ (rd l0 0).toNat)) = sh := by have h_ := hshz; rw [Int.one_mul] at h_; exact h_
  have zp : decide (0 ≤ rd l0 0) = true := decide_eq_true hbb.1
  have zz1 : ((Go.bits .and .u8 (rd l0 (ji)) (((sh) - 1) % 256)) == 0) = true := beq_iff_eq.mpr hz
  have zz2 : ((Go.bits .and .u8 (rd l0 (ji)) (((sh) - 1) % 256)) != 0) = false := bne_eq_false_iff_eq.mpr hz
  obtain ⟨ad, e1, hx1⟩ := Kd.at_int hr0 0 (by omega) (by omega)
  obtain ⟨ad2, e2, hx2⟩ := Kd.at_int hr0 ji p2 q2
  subst e1
  obtain rfl : ad = ad2 := by injection e2
  have qi : (0 < l0.length) = True := eq_true h0
  (try rw [show ((0 : Int)).toNat = 0 from rfl] at hx1)
  (try rw [Addr.add_zero'] at hx1)
  replace p2 := eq_true p2
  replace q2 := eq_true q2
  have hb1 := eq_true hbb.1
  clear h2 hji0 h1 hl h0 hr0 hbb h7 hz e2 hsh
  go_enter Try.func49, Try.ntmps49
  go_wp2_with (first | ((with_reducible refine gate_dst (N := 2) rfl ?_); (try (refine gate_guard (by rfl) ?_; dsimp only)); refine box_event ?hg (N := 2) ?hd (cs := #[.slice none 0 0, .int .i64 0]) (t := 63) ?hr ?_; (case hd => rfl); (case hg => rfl); (case hr => first | (go_simp; done) | (go_simp; rfl)); intro gb hg w3 hbox hb; have BK := Aside0.mk hbox; have HB2 := Aside0.mk (below_step HB.out hb); have GE := Aside0.mk ((by rw [hg]; exact HB.out.size) : w.heap.size ≤ gb); have hc0 := (blk_cell BK.out 0).trans (show _ = some (.slice none 0 0) from rfl); have hc1 := (blk_cell BK.out 1).trans (show _ = some (.int .i64 0) from rfl); have hf0 := blk_frozen BK.out 0; have hf1 := blk_frozen BK.out 1; have hcut1 := hcut.out; have hy1 := pw_cell_below HB2.out hx1; have hy2 := pw_cell_below HB2.out hx2; clear hbox hb; clear hg))
  repeat (go_quiet (fail))
  go_wp2
  refine bodyPost_ret (results_ct rfl _ _ gb 63 #[.slice A1 (l0.length - 1) (c0 - 1), .int .i64 (8 * ((l0.length : Int) - 1) - rd l0 0)] (0, 0) _ rfl (by (with_reducible repeat (first | refine blk_drewN ?_ _ | refine blk_drew ?_ | refine blk_alloc ?_ _)); refine blk_put (cs := #[.slice none 0 0, .int .i64 (8 * ((l0.length : Int) - 1) - rd l0 0)]) ?_ 0 _ rfl; (with_reducible repeat (first | refine blk_drewN ?_ _ | refine blk_drew ?_ | refine blk_alloc ?_ _)); (try rw [HE.out]); refine blk_put (cs := #[.slice none 0 0, .int .i64 0]) ?_ 1 _ rfl; (with_reducible repeat (first | refine blk_drewN ?_ _ | refine blk_drew ?_ | refine blk_alloc ?_ _)); exact BK.out) Try.underlying63 rfl (by kernel_rfl)) rfl ?_
  exact ⟨by have h_ := HA.out; subst h_; rfl, by repeat (first | (with_reducible first | exact HB2.out | apply below_alloc | apply pw_below_drewN | apply below_drew1 | refine below_set ?_ GE.out) | exact HB2.out)⟩

set_option maxHeartbeats 8000000 in
set_option maxRecDepth 100000 in
theorem parseBits_seven (A0 : Option Addr) (c0 : Nat) (l0 : List Int) (w : World) (hr0 : Kd.C (Kd.int .u8) w A0 l0.length l0) (hbb : 0 ≤ rd l0 0 ∧ rd l0 0 ≤ 255) (hl : l0.length ≤ 10000) (h0 : 0 < l0.length) (h7 : 7 < rd l0 0) : Calls Try.prog 49 #[.slice A0 l0.length c0] w (BitsBad w) := by
  have hu1 := Try.underlying63
  have hu2 := Try.underlying87
  obtain ⟨A1, hA1, hcut0⟩ : ∃ A1, A1 = (if c0 = 1 then A0 else A0.map (·.add 1)) ∧ ∀ W : World, (Instr.slice 22 (.slice A0 l0.length c0) (some (.int .i64 1)) none none).run Try.prog W = .ok (.slice A1 (l0.length - 1) (c0 - 1)) W := ⟨_, rfl, cut_one_ A0 l0.length c0 (by omega)⟩
  have HA := Aside0.mk hA1
  have hcut := Aside0.mk hcut0
  clear hA1 hcut0
  have HB := Aside0.mk (Below.refl w.heap.size w)
  have z1 : ((l0.length : Int) == 0) = false := by simp; intro h; rw [h] at h0; simp at h0
  have z4 : decide (0 < (l0.length : Int)) = true := decide_eq_true (by omega)
  have z5 : wrap64 (rd l0 0) = rd l0 0 := by unfold wrap64; omega
  have z6 : decide (7 < rd l0 0) = true := decide_eq_true (by omega)
  have z7 : decide (0 < rd l0 0) = true := decide_eq_true (by omega)
  obtain ⟨ad, e1, hx1⟩ := Kd.at_int hr0 0 (by omega) (by omega)
  subst e1
  have qi : (0 < l0.length) = True := eq_true h0
  (try rw [show ((0 : Int)).toNat = 0 from rfl] at hx1)
  (try rw [Addr.add_zero'] at hx1)
  have hb1 := eq_true hbb.1
  clear hl h0 hr0 hbb h7
  go_enter Try.func49, Try.ntmps49
  go_wp2_with (first | ((with_reducible refine gate_dst (N := 2) rfl ?_); (try (refine gate_guard (by rfl) ?_; dsimp only)); refine box_event ?hg (N := 2) ?hd (cs := #[.slice none 0 0, .int .i64 0]) (t := 63) ?hr ?_; (case hd => rfl); (case hg => rfl); (case hr => first | (go_simp; done) | (go_simp; rfl)); intro gb hg w3 hbox hb; have BK := Aside0.mk hbox; have HB2 := Aside0.mk (below_step HB.out hb); have GE := Aside0.mk ((by rw [hg]; exact HB.out.size) : w.heap.size ≤ gb); have hc0 := (blk_cell BK.out 0).trans (show _ = some (.slice none 0 0) from rfl); have hc1 := (blk_cell BK.out 1).trans (show _ = some (.int .i64 0) from rfl); have hf0 := blk_frozen BK.out 0; have hf1 := blk_frozen BK.out 1; have hy1 := pw_cell_below HB2.out hx1; clear hbox hb; clear hg))
  repeat (go_quiet (fail))
  go_wp2
  refine bodyPost_ret (results_ct rfl _ _ gb 63 #[.slice none 0 0, .int .i64 0] (0, 0) _ rfl (by (with_reducible repeat (first | refine blk_drewN ?_ _ | refine blk_drew ?_ | refine blk_alloc ?_ _)); exact BK.out) Try.underlying63 rfl (by kernel_rfl)) rfl ?_
  exact ⟨_, _, rfl, by repeat (first | (with_reducible first | exact HB2.out | apply below_alloc | apply pw_below_drewN | apply below_drew1 | refine below_set ?_ GE.out) | exact HB2.out)⟩

theorem parseBits_bad (A0 : Option Addr) (c0 : Nat) (l0 : List Int) (w : World) (hr0 : Kd.C (Kd.int .u8) w A0 l0.length l0) (hbb : 0 ≤ rd l0 0 ∧ rd l0 0 ≤ 255) (hl : l0.length ≤ 10000) (h : ¬ isBits l0) : Calls Try.prog 49 #[.slice A0 l0.length c0] w (BitsBad w) := by
  by_cases h0 : l0.length = 0
  · rw [h0]; exact parseBits_empty A0 c0 w
  have h0' : 0 < l0.length := by omega
  by_cases h7 : 7 < rd l0 0
  · exact parseBits_seven A0 c0 l0 w hr0 hbb hl h0' h7
  have h7' : rd l0 0 ≤ 7 := by omega
  by_cases h1 : l0.length = 1
  · by_cases h2 : 0 < rd l0 0
    · exact parseBits_onePos A0 c0 l0 w hr0 hbb hl h0' h7' h1 h2
    · by_cases hz : bitsRest l0 = 0
      · exact absurd ⟨h0', h7', fun _ => by omega, hz⟩ h
      · exact parseBits_badOne A0 c0 l0 w hr0 hbb hl h0' h7' h1 (by omega) hz
  · by_cases hz : bitsRest l0 = 0
    · exact absurd ⟨h0', h7', fun h => absurd h h1, hz⟩ h
    · by_cases h2 : 0 < rd l0 0
      · exact parseBits_badMoreP A0 c0 l0 w hr0 hbb hl h0' h7' h1 h2 hz
      · exact parseBits_badMoreN A0 c0 l0 w hr0 hbb hl h0' h7' h1 (by omega) hz
theorem parseBits_good (A0 : Option Addr) (c0 : Nat) (l0 : List Int) (w : World) (hr0 : Kd.C (Kd.int .u8) w A0 l0.length l0) (hbb : 0 ≤ rd l0 0 ∧ rd l0 0 ≤ 255) (hl : l0.length ≤ 10000) (h : isBits l0) : Calls Try.prog 49 #[.slice A0 l0.length c0] w (BitsGood w A0 c0 l0) := by
  obtain ⟨h0, h7, hp, hz⟩ := h
  by_cases h1 : l0.length = 1
  · exact parseBits_goodOne A0 c0 l0 w hr0 hbb hl h0 h7 h1 (by have := hp h1; omega) hz
  · by_cases h2 : 0 < rd l0 0
    · exact parseBits_goodMoreP A0 c0 l0 w hr0 hbb hl h0 h7 h1 h2 hz
    · exact parseBits_goodMoreN A0 c0 l0 w hr0 hbb hl h0 h7 h1 (by omega) hz
set_option maxHeartbeats 4000000 in
theorem ZZBits_bad (A0 : Option Addr) (c0 : Nat) (l0 : List Int) (w : World) (hr0 : Kd.C (Kd.int .u8) w A0 l0.length l0) (hbb : 0 ≤ rd l0 0 ∧ rd l0 0 ≤ 255) (hl : l0.length ≤ 10000) (h : ¬ isBits l0) : Calls Try.prog 39 #[.slice A0 l0.length c0] w (BitsBad w) := by
  have hu1 := Try.underlying63
  have HR0 := Aside0.mk hr0
  have HX := Aside0.mk hbb
  have HL := Aside0.mk hl
  have HN := Aside0.mk h
  have HB := Aside0.mk (Below.refl w.heap.size w)
  clear hr0 hbb hl h
  go_enter Try.func39, Try.ntmps39
  go_wp2_with (first | ((with_reducible refine gate_dst (N := 2) rfl ?_); refine box_event ?hg (N := 2) ?hd (cs := #[.slice none 0 0, .int .i64 0]) (t := 63) ?hr ?_; (case hd => rfl); (case hg => rfl); (case hr => first | (go_simp; done) | (go_simp; rfl)); intro gb hg w3 hbox hb; have BK := Aside0.mk hbox; have HB2 := Aside0.mk (below_step HB.out hb); have GE := Aside0.mk ((by rw [hg]; exact HB.out.size) : w.heap.size ≤ gb); clear hbox hb; clear hg) | (go_at_call 49; (with_reducible refine (parseBits_bad _ _ l0 _ (Kd.C_below HR0.out HB2.out) HX.out HL.out HN.out).mono ?_); rintro e w4 ⟨T, x, rfl, hb⟩; have HB3 := Aside0.mk (below_step HB2.out hb); have BK3 := Aside0.mk (blk_below BK.out hb); have hc0 := (blk_cell BK3.out 0).trans (show _ = some (.slice none 0 0) from rfl); have hc1 := (blk_cell BK3.out 1).trans (show _ = some (.int .i64 0) from rfl); have hf0 := blk_frozen BK3.out 0; have hf1 := blk_frozen BK3.out 1; clear hb))
  refine bodyPost_ret (results_ct rfl _ _ gb 63 #[.slice none 0 0, .int .i64 0] (0, 0) _ rfl (by repeat (first | exact BK3.out | refine blk_put (cs := #[.slice none 0 0, .int .i64 0]) ?_ _ _ rfl)) Try.underlying63 rfl (by kernel_rfl)) rfl ?_
  exact ⟨T, x, by first | rfl | (simp; rfl), by repeat (first | (with_reducible first | exact HB3.out | apply below_alloc | apply pw_below_drewN | apply below_drew1 | refine below_set ?_ GE.out) | exact HB3.out)⟩
set_option maxHeartbeats 4000000 in
theorem ZZBits_good (A0 : Option Addr) (c0 : Nat) (l0 : List Int) (w : World) (hr0 : Kd.C (Kd.int .u8) w A0 l0.length l0) (hbb : 0 ≤ rd l0 0 ∧ rd l0 0 ≤ 255) (hl : l0.length ≤ 10000) (h : isBits l0) : Calls Try.prog 39 #[.slice A0 l0.length c0] w (BitsGood w A0 c0 l0) := by
  have hu1 := Try.underlying63
  have HR0 := Aside0.mk hr0
  have HX := Aside0.mk hbb
  have HL := Aside0.mk hl
  have HN := Aside0.mk h
  have HB := Aside0.mk (Below.refl w.heap.size w)
  obtain ⟨A1, hA1⟩ : ∃ A1, A1 = (if c0 = 1 then A0 else A0.map (·.add 1)) := ⟨_, rfl⟩
  have HA := Aside0.mk hA1
  obtain ⟨k1, hk1⟩ : ∃ k1 : Int, k1 = 8 * ((l0.length : Int) - 1) - rd l0 0 := ⟨_, rfl⟩
  have HK := Aside0.mk hk1
  clear hr0 hbb hl h hA1 hk1
  go_enter Try.func39, Try.ntmps39
  go_wp2_with (first | ((with_reducible refine gate_dst (N := 2) rfl ?_); refine box_event ?hg (N := 2) ?hd (cs := #[.slice none 0 0, .int .i64 0]) (t := 63) ?hr ?_; (case hd => rfl); (case hg => rfl); (case hr => first | (go_simp; done) | (go_simp; rfl)); intro gb hg w3 hbox hb; have BK := Aside0.mk hbox; have HB2 := Aside0.mk (below_step HB.out hb); have GE := Aside0.mk ((by rw [hg]; exact HB.out.size) : w.heap.size ≤ gb); clear hbox hb; clear hg) | (go_at_call 49; (with_reducible refine (parseBits_good _ _ l0 _ (Kd.C_below HR0.out HB2.out) HX.out HL.out HN.out).mono ?_); rintro e w4 ⟨he, hb⟩; rw [← HA.out, ← HK.out] at he; subst he; have HB3 := Aside0.mk (below_step HB2.out hb); have BK3 := Aside0.mk (blk_below BK.out hb); have hc0 := (blk_cell BK3.out 0).trans (show _ = some (.slice none 0 0) from rfl); have hc1 := (blk_cell BK3.out 1).trans (show _ = some (.int .i64 0) from rfl); have hf0 := blk_frozen BK3.out 0; have hf1 := blk_frozen BK3.out 1; clear hb))
  refine bodyPost_ret (results_ct rfl _ _ gb 63 #[.slice A1 (l0.length - 1) (c0 - 1), .int .i64 k1] (0, 0) _ rfl (by refine blk_put (cs := #[.slice A1 (l0.length - 1) (c0 - 1), .int .i64 0]) ?_ _ _ rfl; refine blk_put (cs := #[.slice none 0 0, .int .i64 0]) ?_ _ _ rfl; exact BK3.out) Try.underlying63 rfl (by kernel_rfl)) rfl ?_
  exact ⟨by rw [← HA.out, ← HK.out]; rfl, by repeat (first | (with_reducible first | exact HB3.out | apply below_alloc | apply pw_below_drewN | apply below_drew1 | refine below_set ?_ GE.out) | exact HB3.out)⟩
def RBBad (w : World) (e : Ending) (w' : World) : Prop := e = .returned (.tuple #[.slice none 0 0, .int .i64 0, .bool false]) ∧ Below w.heap.size w w'
def RBGood (w : World) (l : List Int) (e : Ending) (w' : World) : Prop := ∃ v0_ : Value, e = .returned (.tuple #[v0_, .int .i64 (8 * ((l.length : Int) - 1) - rd l 0), .bool true]) ∧ Kd.Q (Kd.int .u8) 5 w' w.heap.size (fun _ => True) v0_ (l.drop 1) ∧ Below w.heap.size w w'
set_option maxHeartbeats 4000000 in
theorem ReadBits_bad (A0 : Option Addr) (c0 : Nat) (l0 : List Int) (w : World) (hr0 : Kd.C (Kd.int .u8) w A0 l0.length l0) (hc0 : l0.length ≤ c0) (hbb : 0 ≤ rd l0 0 ∧ rd l0 0 ≤ 255) (hl : l0.length ≤ 10000) (h : ¬ isBits l0) : Calls Try.prog 17 #[.slice A0 l0.length c0] w (RBBad w) := by
  have hu1 := Try.underlying63
  have HR0 := Aside0.mk hr0
  have HC0 := Aside0.mk hc0
  have HX := Aside0.mk hbb
  have HL := Aside0.mk hl
  have HN := Aside0.mk h
  have HS := Aside0.mk (show impl_short.f l0 = some true by simp [impl_short.f]; omega)
  have HP := Aside0.mk (show impl_copied.f l0 = some l0 by simp [impl_copied.f]; omega)
  have HB := Aside0.mk (Below.refl w.heap.size w)
  clear hr0 hc0 hbb hl h
  go_enter Try.func17, Try.ntmps17
  go_wp2_with (first | (go_at_call 35; (with_reducible refine (impl_short.calls _ _ l0 true _ HR0.out HC0.out HS.out).mono ?_); rintro e w6 ⟨rfl, hd⟩; have HB4 := Aside0.mk (below_step HB.out hd.below); clear hd) | (go_at_call 37; (with_reducible refine (impl_copied.calls _ _ l0 l0 _ (Kd.C_below HR0.out HB4.out) HC0.out HP.out).mono ?_); rintro e w7 ⟨v0, rfl, ho, hb⟩; have HB5 := Aside0.mk (below_step HB4.out hb); obtain ⟨A5, c5, e5⟩ := Kd.R_slice ho; subst e5; have HO5 := Aside0.mk (Kd.R_reads' ho).2.2; clear hb ho) | (go_at_call 39; (with_reducible refine (ZZBits_bad _ _ l0 _ HO5.out HX.out HL.out HN.out).mono ?_); rintro e w8 ⟨T, x, rfl, hb⟩; have HB6 := Aside0.mk (below_step HB5.out hb); clear hb) | ((with_reducible refine gate_dst (N := 5) rfl ?_); refine box_event ?hg (N := 5) ?hd (cs := #[.slice none 0 0, .int .i64 0]) (t := 63) ?hr ?_; (case hd => rfl); (case hg => rfl); (case hr => first | (go_simp; done) | (go_simp; rfl)); intro gb hg w9 hbox hb; have BK := Aside0.mk hbox; have HB7 := Aside0.mk (below_step HB6.out hb); have GE := Aside0.mk ((by rw [hg]; exact HB6.out.size) : w.heap.size ≤ gb); have hc0 := (blk_cell BK.out 0).trans (show _ = some (.slice none 0 0) from rfl); have hc1 := (blk_cell BK.out 1).trans (show _ = some (.int .i64 0) from rfl); have hf0 := blk_frozen BK.out 0; have hf1 := blk_frozen BK.out 1; clear hbox hb; clear hg))
  go_ret3
  exact ⟨by first | rfl | (simp; rfl), by repeat (first | (with_reducible first | exact HB7.out | apply below_alloc | apply pw_below_drewN | apply below_drew1 | refine below_set ?_ GE.out) | exact HB7.out)⟩
set_option maxHeartbeats 4000000 in
theorem ReadBits_good (A0 : Option Addr) (c0 : Nat) (l0 : List Int) (w : World) (hr0 : Kd.C (Kd.int .u8) w A0 l0.length l0) (hc0 : l0.length ≤ c0) (hbb : 0 ≤ rd l0 0 ∧ rd l0 0 ≤ 255) (hl : l0.length ≤ 10000) (h : isBits l0) : Calls Try.prog 17 #[.slice A0 l0.length c0] w (RBGood w l0) := by
  have hu1 := Try.underlying63
  have HR0 := Aside0.mk hr0
  have HC0 := Aside0.mk hc0
  have HX := Aside0.mk hbb
  have HL := Aside0.mk hl
  have HN := Aside0.mk h
  have HS := Aside0.mk (show impl_short.f l0 = some true by simp [impl_short.f]; omega)
  have HP := Aside0.mk (show impl_copied.f l0 = some l0 by simp [impl_copied.f]; omega)
  have HB := Aside0.mk (Below.refl w.heap.size w)
  obtain ⟨k1, hk1⟩ : ∃ k1 : Int, k1 = 8 * ((l0.length : Int) - 1) - rd l0 0 := ⟨_, rfl⟩
  have HK := Aside0.mk hk1
  clear hr0 hc0 hbb hl h hk1
  go_enter Try.func17, Try.ntmps17
  go_wp2_with (first | (go_at_call 35; (with_reducible refine (impl_short.calls _ _ l0 true _ HR0.out HC0.out HS.out).mono ?_); rintro e w6 ⟨rfl, hd⟩; have HB4 := Aside0.mk (below_step HB.out hd.below); clear hd) | (go_at_call 37; (with_reducible refine (impl_copied.calls _ _ l0 l0 _ (Kd.C_below HR0.out HB4.out) HC0.out HP.out).mono ?_); rintro e w7 ⟨v0, rfl, ho, hb⟩; have HB5 := Aside0.mk (below_step HB4.out hb); obtain ⟨A5, c5, e5⟩ := Kd.R_slice ho; subst e5; have HO5 := Aside0.mk (Kd.R_reads' ho).2.2; have HQ5 := Aside0.mk (Kd.Q_lower (Kd.Q_drop (k := 1) (Kd.Q_of_R ho) HN.out.1) HB4.out.size); obtain ⟨A1, hA1⟩ : ∃ A1, A1 = (if c5 = 1 then A5 else A5.map (·.add 1)) := ⟨_, rfl⟩; have HA := Aside0.mk hA1; clear hb ho hA1) | (go_at_call 39; (with_reducible refine (ZZBits_good _ _ l0 _ HO5.out HX.out HL.out HN.out).mono ?_); rintro e w8 ⟨he, hb⟩; rw [← HA.out, ← HK.out] at he; subst he; have HB6 := Aside0.mk (below_step HB5.out hb); have HQ6 := Aside0.mk (Kd.Q_below HQ5.out hb); clear hb) | ((with_reducible refine gate_dst (N := 5) rfl ?_); refine box_event ?hg (N := 5) ?hd (cs := #[.slice none 0 0, .int .i64 0]) (t := 63) ?hr ?_; (case hd => rfl); (case hg => rfl); (case hr => first | (go_simp; done) | (go_simp; rfl)); intro gb hg w9 hbox hb; have BK := Aside0.mk hbox; have HB7 := Aside0.mk (below_step HB6.out hb); have HQ7 := Aside0.mk (Kd.Q_below HQ6.out hb); have GE := Aside0.mk ((by rw [hg]; exact HB6.out.size) : w.heap.size ≤ gb); have hc0 := (blk_cell BK.out 0).trans (show _ = some (.slice none 0 0) from rfl); have hc1 := (blk_cell BK.out 1).trans (show _ = some (.int .i64 0) from rfl); have hf0 := blk_frozen BK.out 0; have hf1 := blk_frozen BK.out 1; clear hbox hb; clear hg))
  repeat (go_quiet (fail))
  go_wp2
  go_ret3
  refine ⟨_, by rw [← HK.out]; rfl, ?_, by repeat (first | (with_reducible first | exact HB7.out | apply below_alloc | apply pw_below_drewN | apply below_drew1 | refine below_set ?_ GE.out) | exact HB7.out)⟩
  (with_reducible repeat (first | apply Kd.Q_alloc | apply Kd.Q_drewN | apply Kd.Q_drew))
  refine Kd.Q_set (t := 63) (cells := #[.slice A1 (l0.length - 1) (c5 - 1), .int .i64 0]) ?_ (blk_put BK.out 0 _ rfl) (by decide) 1 _
  refine Kd.Q_set (t := 63) (cells := #[.slice none 0 0, .int .i64 0]) ?_ BK.out (by decide) 0 _
  have h_ := HQ7.out
  rw [show (1 * (Kd.int .u8).sz) = 1 from rfl, ← HA.out] at h_
  exact h_

instance (l : List Int) : Decidable (isBits l) := by unfold isBits; infer_instance
def impl_ReadBits.f (l0 : List Int) : Option (List Int × Int × Bool) := if l0.length ≤ 10000 ∧ (0 ≤ rd l0 0 ∧ rd l0 0 ≤ 255) then (if isBits l0 then some (l0.drop 1, 8 * ((l0.length : Int) - 1) - rd l0 0, true) else some ([], 0, false)) else none
theorem impl_ReadBits.calls (A0 : Option Addr) (c0 : Nat) (l0 : List Int) (r1 : List Int) (r2 : Int) (r3 : Bool) (w : World) (hr0 : Kd.C (Kd.int .u8) w A0 l0.length l0) (hc0 : l0.length ≤ c0) (h : impl_ReadBits.f l0 = some (r1, r2, r3)) :
    Calls Try.prog 17 #[.slice A0 l0.length c0] w fun e w' => ∃ v0_ : Value, e = .returned (.tuple #[v0_, .int .i64 r2, .bool r3]) ∧ Kd.Q (Kd.int .u8) 5 w' w.heap.size (fun _ => True) v0_ r1 ∧ Below w.heap.size w w' := by
  unfold impl_ReadBits.f at h
  by_cases c : l0.length ≤ 10000 ∧ (0 ≤ rd l0 0 ∧ rd l0 0 ≤ 255)
  · rw [if_pos c] at h
    by_cases b : isBits l0
    · rw [if_pos b] at h
      simp only [Option.some.injEq, Prod.mk.injEq] at h
      obtain ⟨rfl, rfl, rfl⟩ := h
      exact ReadBits_good A0 c0 l0 w hr0 hc0 c.2 c.1 b
    · rw [if_neg b] at h
      simp only [Option.some.injEq, Prod.mk.injEq] at h
      obtain ⟨rfl, rfl, rfl⟩ := h
      exact (ReadBits_bad A0 c0 l0 w hr0 hc0 c.2 c.1 b).mono fun e w' ⟨he, hb⟩ => ⟨_, he, Kd.Q_nil _ _ _ _ _, hb⟩
  · rw [if_neg c] at h
    cases h

/-! ### bytes_Equal: function 18 -/
def bytes_Equal.f (l0 : List Int) (l1 : List Int) : Option (Bool) := some ((strOfNums l0).toList == (strOfNums l1).toList)
set_option maxHeartbeats 8000000 in
set_option maxRecDepth 100000 in
theorem bytes_Equal.calls (A0 : Option Addr) (c0 : Nat) (l0 : List Int) (A1 : Option Addr) (c1 : Nat) (l1 : List Int) (r : Bool) (w : World) (hr0 : Kd.C (Kd.int .u8) w A0 l0.length l0) (hc0 : l0.length ≤ c0) (hr1 : Kd.C (Kd.int .u8) w A1 l1.length l1) (hc1 : l1.length ≤ c1) (h : bytes_Equal.f l0 l1 = some r) :
    Calls Try.prog 18 #[.slice A0 l0.length c0, .slice A1 l1.length c1] w fun e w' => e = .returned (.bool r) ∧ Drawn0 w w' := by
  have HR0 := Aside0.mk hr0
  have HC0 := Aside0.mk hc0
  clear hr0 hc0
  have HR1 := Aside0.mk hr1
  have HC1 := Aside0.mk hc1
  clear hr1 hc1
  have H : (some ((strOfNums l0).toList == (strOfNums l1).toList)) = some r := h
  clear h
  obtain rfl := Option.some.inj H
  have hcv3 := Kd.C_string (P := Try.prog) (A := A0) (c := c0) Try.underlying22 Try.underlying5 Try.underlying9 HR0.out
  have hcv4 := Kd.C_string (P := Try.prog) (A := A1) (c := c1) Try.underlying22 Try.underlying5 Try.underlying9 HR1.out
  go_enter Try.func18, Try.ntmps18
  go_wp2
  go_ret
  exact ⟨by first | rfl | (simp; done) | (simp [*]; done), by repeat (first | exact Drawn0.refl _ | apply Drawn0.step)⟩

end Go.Proofs.Ytapnkngcnlomhaa.QB
