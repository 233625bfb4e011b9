-- Written by a program of this work (wip/patch_print.py) for this claim.
import Derived.Test.YtmiemfgcggkbnaaQBx0
namespace Go.Proofs.Ytmiemfgcggkbnaa.QB
open Go.RowKit Go.Proofs.YtmiemfgcggkbnaaW.PrintWords Go.Proofs.YtmiemfgcggkbnaaW.PrintLast Go.Proofs.YtmiemfgcggkbnaaW.PrintMore
attribute [local go_sem] max2_int min2_int max_two min_two max_three min_three max_four min_four   -- for this text's walks alone
set_option linter.unusedVariables false
set_option linter.unusedSimpArgs false

/-! ### bytes_Equal: function 17 -/
def bytes_Equal.f (l0 : List Int) (l1 : List Int) : Option (Bool) := some ((strOfNums l0).toList == (strOfNums l1).toList)
set_option maxHeartbeats 8000000 in
set_option maxRecDepth 100000 in
theorem bytes_Equal.calls (A0 : Option Addr) (c0 : Nat) (l0 : List Int) (A1 : Option Addr) (c1 : Nat) (l1 : List Int) (r : Bool) (w : World) (hr0 : Kd.C (Kd.int .u8) w A0 l0.length l0) (hc0 : l0.length ≤ c0) (hr1 : Kd.C (Kd.int .u8) w A1 l1.length l1) (hc1 : l1.length ≤ c1) (h : bytes_Equal.f l0 l1 = some r) :
    Calls Try.prog 17 #[.slice A0 l0.length c0, .slice A1 l1.length c1] w fun e w' => e = .returned (.bool r) ∧ Drawn0 w w' := by
  have HR0 := Aside0.mk hr0
  have HC0 := Aside0.mk hc0
  clear hr0 hc0
  have HR1 := Aside0.mk hr1
  have HC1 := Aside0.mk hc1
  clear hr1 hc1
  have H : (some ((strOfNums l0).toList == (strOfNums l1).toList)) = some r := h
  clear h
  obtain rfl := Option.some.inj H
  have hcv3 := Kd.C_string (P := Try.prog) (A := A0) (c := c0) Try.underlying25 Try.underlying5 Try.underlying9 HR0.out
  have hcv4 := Kd.C_string (P := Try.prog) (A := A1) (c := c1) Try.underlying25 Try.underlying5 Try.underlying9 HR1.out
  go_enter Try.func17, Try.ntmps17
  go_wp2
  go_ret
  exact ⟨by first | rfl | (simp; done) | (simp [*]; done), by repeat (first | exact Drawn0.refl _ | apply Drawn0.step)⟩

/-! ### impl_copied: function 44 -/
def impl_copied.f (l0 : List Int) : Option (List Int) := if ([] : List Int).length + l0.length < 140737488355328 then (some (([] : List Int) ++ l0)) else (none)
set_option maxHeartbeats 8000000 in
set_option maxRecDepth 100000 in
theorem impl_copied.calls (A0 : Option Addr) (c0 : Nat) (l0 : List Int) (r : List Int) (w : World) (hr0 : Kd.C (Kd.int .u8) w A0 l0.length l0) (hc0 : l0.length ≤ c0) (h : impl_copied.f l0 = some r) :
    Calls Try.prog 44 #[.slice A0 l0.length c0] w fun e w' => ∃ v0_ : Value, e = .returned (v0_) ∧ Kd.R (Kd.int .u8) 5 w' w.heap.size (fun _ => True) v0_ r ∧ Below w.heap.size w w' := by
  have HR0 := Aside0.mk hr0
  have HC0 := Aside0.mk hc0
  clear hr0 hc0
  have HB := Aside0.mk (Below.refl w.heap.size w)
  have H : (if ([] : List Int).length + l0.length < 140737488355328 then (some (([] : List Int) ++ l0)) else (none)) = some r := h
  clear h
  by_cases c2 : ([] : List Int).length + l0.length < 140737488355328
  · rw [if_pos c2] at H
    have LMc2 := Aside0.mk c2
    clear c2
    obtain ⟨y101, hy101⟩ : ∃ y_ : List Int, y_ = (([] : List Int) ++ l0) := ⟨_, rfl⟩
    replace H : (some y101) = some r := by first | (rw [hy101]; with_reducible exact H) | (have H2_ := (Option.bind_some _ _).symm.trans H; rw [hy101]; with_reducible exact H2_) | (have H2_ := (Option.bind_some _ _).symm.trans H; with_reducible exact H2_) | with_reducible exact H | (rw [hy101]; exact H) | exact H
    have Ny101 := Aside0.mk hy101
    clear hy101
    obtain rfl := Option.some.inj H
    go_enter Try.func44, Try.ntmps44
    go_wp2_with (first | ((with_reducible refine gate_builtin (b := .append) (xs := #[.const (.slice none 0 0), .tmp 3]) rfl ?_); at_builtin; refine Kd.R_append_rows (Kd.int .u8) (w0 := w) w.heap.size rfl (.const (.slice none 0 0)) (.tmp 3) 25 5 (.int .u8 0) 1 rfl Try.underlying25 info5 rfl (by decide) (by omega) (.slice none 0 0) ([] : List Int) l0 _ _ _ (fun _ => True) (fun _ => False) rfl rfl ?aO ?aR (fun _ _ h => h) (fun _ h => h.elim) ?aF ?aB ?aS ?aL ?_; (case aR => repeat (first | exact HR0.out | (with_reducible refine Kd.C_alloc ?_ _) | (with_reducible refine Kd.C_drewN ?_ _) | (with_reducible refine Kd.C_drew ?_))); (case aB => exact (by repeat (first | (with_reducible first | exact HB.out | apply below_alloc | apply pw_below_drewN | apply below_drew1) | exact HB.out))); (case aF => exact (fun _ _ => trivial)); (case aO => exact ((Kd.R_nil _ _ _ _ (fun _ => True)))); (case aS => exact (below_size (by repeat (first | (with_reducible first | exact HB.out | apply below_alloc | apply pw_below_drewN | apply below_drew1) | exact HB.out)))); (case aL => have := LMc2.out; omega); intro v102 w3 ho hb hg hat; rw [← Ny101.out] at ho; have n0_ := Aside0.mk (hb); have n1_ := Aside0.mk (ho); clear HB; have HB := n0_; have HO103 := n1_; clear n0_ n1_; clear ho hb hg hat))
    go_ret
    exact ⟨_, by first | rfl | (simp [errW_none, errW_some] <;> rfl) | (simp [*, errW_none, errW_some] <;> rfl), by (with_reducible repeat (first | apply Kd.R_alloc | apply Kd.R_drewN | apply Kd.R_drew)); exact HO103.out, by repeat (first | (with_reducible first | exact HB.out | apply below_alloc | apply pw_below_drewN | apply below_drew1) | exact HB.out)⟩
  · rw [if_neg c2] at H
    exact absurd H (by simp)

/-! ### impl_short: function 48 -/
def impl_short.f (l0 : List Int) : Option (Bool) := some (decide ((l0.length : Int) ≤ 10000))
set_option maxHeartbeats 8000000 in
set_option maxRecDepth 100000 in
theorem impl_short.calls (A0 : Option Addr) (c0 : Nat) (l0 : List Int) (r : Bool) (w : World) (hr0 : Kd.C (Kd.int .u8) w A0 l0.length l0) (hc0 : l0.length ≤ c0) (h : impl_short.f l0 = some r) :
    Calls Try.prog 48 #[.slice A0 l0.length c0] w fun e w' => e = .returned (.bool r) ∧ Drawn0 w w' := by
  have HR0 := Aside0.mk hr0
  have HC0 := Aside0.mk hc0
  clear hr0 hc0
  have H : (some (decide ((l0.length : Int) ≤ 10000))) = some r := h
  clear h
  obtain rfl := Option.some.inj H
  go_enter Try.func48, Try.ntmps48
  go_wp2
  go_ret
  exact ⟨by first | rfl | (simp; done) | (simp [*]; done), by repeat (first | exact Drawn0.refl _ | apply Drawn0.step)⟩

-- NOT PRINTED: function 80 (asn1_zzEncoded)

-- NOT PRINTED: function 130 (asn1_bitStringEncoder_Encode)

/-! ### asn1_bitStringEncoder_Len: function 131 -/
def asn1_bitStringEncoder_Len.f (l0_0 : List Int) (a0_1 : Int) : Option (Int) := some (wrap64 ((l0_0.length : Int) + 1))
set_option maxHeartbeats 8000000 in
set_option maxRecDepth 100000 in
theorem asn1_bitStringEncoder_Len.calls (A0_0 : Option Addr) (c0_0 : Nat) (l0_0 : List Int) (a0_1 : Int) (r : Int) (w : World) (hr0_0 : Kd.C (Kd.int .u8) w A0_0 l0_0.length l0_0) (hc0_0 : l0_0.length ≤ c0_0) (h : asn1_bitStringEncoder_Len.f l0_0 a0_1 = some r) :
    Calls Try.prog 131 #[.agg #[.slice A0_0 l0_0.length c0_0, .int .i64 a0_1]] w fun e w' => e = .returned (.int .i64 r) ∧ Below w.heap.size w w' := by
  have hu122 := Try.underlying122
  have HR0_0 := Aside0.mk hr0_0
  have HC0_0 := Aside0.mk hc0_0
  clear hr0_0 hc0_0
  have HB := Aside0.mk (Below.refl w.heap.size w)
  have H : (some (wrap64 ((l0_0.length : Int) + 1))) = some r := h
  clear h
  obtain rfl := Option.some.inj H
  go_enter Try.func131, Try.ntmps131
  go_wp2_with (first | ((with_reducible refine gate_dst (N := 1) rfl ?_); refine box_event ?hg (N := 1) ?hd (cs := #[.slice A0_0 l0_0.length c0_0, .int .i64 a0_1]) (t := 122) ?hr ?_; (case hd => rfl); (case hg => rfl); (case hr => first | (go_simp; done) | (go_simp; rfl)); intro gb110 hg w2 hbox hb; have n0_ := Aside0.mk (below_step (by repeat (first | (with_reducible first | exact HB.out | apply below_alloc | apply pw_below_drewN | apply below_drew1) | exact HB.out)) hb); have n1_ := Aside0.mk (hbox); have n2_ := Aside0.mk ((by rw [hg]; exact (below_size (by repeat (first | (with_reducible first | exact HB.out | apply below_alloc | apply pw_below_drewN | apply below_drew1) | exact HB.out))) : w.heap.size ≤ gb110)); have n3_ := Aside0.mk ((by rw [hg]; exact (below_size (by repeat (first | (with_reducible first | exact HB.out | apply below_alloc | apply pw_below_drewN | apply below_drew1) | exact HB.out))) : w.heap.size ≤ gb110)); clear HB; have HB := n0_; have BK110 := n1_; have GW110 := n2_; have GE110 := n3_; clear n0_ n1_ n2_ n3_; clear hb hbox hg; have hcz3_0 : w2.cell? ⟨gb110, 0, none⟩ = some (.slice A0_0 l0_0.length c0_0) := (blk_cell BK110.out 0).trans rfl; have hcz3_1 : w2.cell? ⟨gb110, 1, none⟩ = some (.int .i64 a0_1) := (blk_cell BK110.out 1).trans rfl; have hfz3_0 := blk_frozen BK110.out 0; have hfz3_1 := blk_frozen BK110.out 1))
  go_ret
  exact ⟨by first | rfl | (simp [errW_none, errW_some] <;> rfl) | (simp [*, errW_none, errW_some] <;> rfl), by repeat (first | (with_reducible first | exact HB.out | apply below_alloc | apply pw_below_drewN | apply below_drew1 | refine below_set ?_ GE110.out) | exact HB.out)⟩

-- NOT PRINTED: function 65 (asn1_ZZPutBits)

set_option linter.unusedVariables false
/-- copy onto a row of one's own from its second place on, as many as there is place. -/
theorem step_copy_tail {P : Program} {ops : Array Oper} {o : Oper} {a : Act} {W : World} {K : Act → World → Prop} {Q : Exit → Act → World → Prop} {E : Prop} {w0 : World} (base : Nat) (hgd : o.guard = none) (s x : Operand) (t t' : TypeId)
    (ho : o.op = .call { callee := .builtin .copy, args := #[s, x], argTypes := #[t, t'] }) (ht : P.underlying t = some (.slice 5)) (hinfo : (P.info? 5).map (·.size) = some 1)
    (g cap capd nd n c : Nat) (A1 A : Option Addr) (L B : List Int) (ok : Nat → Prop) (hs : a.eval s = .slice A1 nd capd) (hx : a.eval x = .slice A n c)
    (HO : Kd.R (Kd.int .u8) 5 W base ok (.slice (some ⟨g, 0, none⟩) L.length cap) L) (HR : Kd.C (Kd.int .u8) W A B.length B) (hn : B.length = n) (hnd : nd = n) (hL : L.length = n + 1) (hA1 : n = 0 ∨ A1 = some ⟨g, 1, none⟩) (HB : Below base w0 W) (hg : base ≤ g)
    (h : ∀ w1, Kd.R (Kd.int .u8) 5 w1 base ok (.slice (some ⟨g, 0, none⟩) L.length cap) (L.take 1 ++ B) → Below base w0 w1 → W.grownBy w1 (some g) → K (a.put o.dst (.int .i64 (n : Int))) w1) :
    if Region.wanted o (yielded ops a.tmps) = true then Oper.wp P o a W K Q else E := by
  have hw : Region.wanted o (yielded ops a.tmps) = true := by simp [Region.wanted, hgd]
  rw [if_pos hw]
  subst hn
  subst hnd
  rcases Nat.eq_zero_or_pos B.length with h0 | hp
  · have hB : B = [] := List.eq_nil_of_length_eq_zero h0
    subst hB
    have hrun := run_copy_none (P := P) W t t' o.type 5 A1 A ([] : List Int).length capd ([] : List Int).length c ht hinfo rfl
    unfold Oper.wp
    simp only [execOp, ho, resolve, invoke, builtin, Sem.run_bind, Sem.run_pure, Result.andThen_ok, List.map_toArray, List.map_cons, List.map_nil, hs, hx, hrun]
    exact h W (by rw [List.append_nil, List.take_of_length_le (by simpa using Nat.le_of_eq hL)]; exact HO) HB (World.grownBy.refl W _)
  · have hA : A1 = some ⟨g, 1, none⟩ := by rcases hA1 with h | h; · omega
                                           · exact h
    subst hA
    have hR := Kd.reads_of_C (enc := Value.int .u8) (d := (0 : Int)) (h1 := fun _ => rfl) HR
    obtain ⟨ad, hA, hc⟩ := hR.2.2 (by omega)
    have hown := Kd.own_of_R (enc := Value.int .u8) (h1 := fun _ => rfl) HO
    rcases hown.2 with ⟨he, hx0⟩ | ⟨g', cap', cur, hv, hb, hh, hnc, hcm, hcs, htake⟩
    · omega
    injection hv with e1 e2 e3
    injection e1 with e1
    injection e1 with e1
    subst e1; subst e3; subst hA
    have hcs1 : cur.size = cap := by omega
    have hsrc : ∀ j u, (encs (Value.int .u8) B)[j]? = some u → W.cell? (ad.add j) = some u := by
      intro j u hu
      have hj : j < B.length := by
        rcases Nat.lt_or_ge j B.length with h | h
        · exact h
        · rw [List.getElem?_eq_none (by rw [encs_length]; exact h)] at hu
          cases hu
      rw [encs_get (d := (0 : Int)) _ j hj] at hu
      rw [hc j (by omega), ← hu]
    have hkl : (encs (Value.int .u8) B).length = B.length := by rw [encs_length]
    have hr := run_copy_cells (P := P) W t t' o.type 5 g 1 B.length capd ad B.length c (encs (Value.int .u8) B) ht hinfo (by rw [hkl]; exact (Nat.min_self _).symm) hsrc
      (fun j hj => by rw [cell_of_row W g _ cur 5 (0, 0) hh]; simp; omega) (fun j _ => blk_frozen hh _) (by intro u hu; simp only [encs, List.mem_map] at hu; obtain ⟨q, _, rfl⟩ := hu; rfl)
    obtain ⟨cur', h3, h4, h5⟩ := setCells_row (encs (Value.int .u8) B) 1 W cur hh (by rw [hkl]; omega)
    obtain ⟨s1, s2, s3, s4⟩ := setCells_same g (encs (Value.int .u8) B) 1 W
    have hgr : W.grownBy (W.setCells g 1 (encs (Value.int .u8) B)) (some g) := ⟨s1, s2, s3, by rw [s4]; exact Nat.le_refl _, fun k _ hk => setCells_far _ _ k (fun he => hk (by rw [he]))⟩
    unfold Oper.wp
    simp only [execOp, ho, resolve, invoke, builtin, Sem.run_bind, Sem.run_pure, Result.andThen_ok, List.map_toArray, List.map_cons, List.map_nil, hs, hx, hr]
    rw [hkl]
    refine h _ (Kd.R_of_own ?_ HO.1) ?_ hgr
    · have hln : (L.take 1 ++ B).length = L.length := by
        rw [List.length_append, List.length_take]; omega
      rw [hln]
      refine ⟨by rw [encs_length, hln, Nat.mul_one], .inr ⟨g, cap, cur', rfl, hb, h3, hnc, hcm, by rw [h4, hcs], ?_⟩⟩
      rw [h5, encs_append, Nat.mul_one, hkl]
      have htk : cur.toList.take L.length = encs (Value.int .u8) L := by rw [← htake, Nat.mul_one]
      have h1 : cur.toList.take 1 = encs (Value.int .u8) (L.take 1) := by
        have : (cur.toList.take L.length).take 1 = (encs (Value.int .u8) L).take 1 := by rw [htk]
        rw [List.take_take, Nat.min_eq_left (by omega)] at this
        rw [this]; simp [encs, List.map_take]
      rw [h1, List.take_left' (by simp [encs_length]; omega)]
    · exact HB.grown hgr (by have := hb; have := hh; exact Nat.le_trans hb (Nat.le_of_lt (by
        rcases Nat.lt_or_ge g W.heap.size with h | h
        · exact h
        · rw [Array.getElem?_eq_none h] at hh; cases hh))) (fun k hk => by cases hk; exact hg)
theorem cut_oneP_ (A : Option Addr) (n c : Nat) (h : 1 ≤ n) : ∀ W : World, (Instr.slice 25 (.slice A n c) (some (.int .i64 1)) none none).run Try.prog W = .ok (.slice (if c = 1 then A else A.map (·.add 1)) (n - 1) (c - 1)) W := by
  intro W
  obtain ⟨i0, hi0, _, hsz, _⟩ := info_parts info5
  have hel : Try.prog.elem 25 = 5 := by simp [Program.elem, Try.underlying25]
  have hu : Try.prog.underlying 25 = some (.slice (Try.prog.elem 25)) := by rw [hel]; exact Try.underlying25
  have := run_slice_l W 25 A n c hu .i64 (1 : Int) (by omega) (by omega)
  rw [this, hel]
  simp [sizeOf, typeInfo, hi0, hsz, sliced, Result.andThen]

theorem take_set0 (L : List Int) (x : Int) (h : 0 < L.length) : (L.set (0 : Int).toNat x).take 1 = [x] := by
  cases L with
  | nil => simp at h
  | cons y r => rfl
theorem R_after {w w2 : World} {base : Nat} {ok : Nat → Prop} {v : Value} {L : List Int} (h : Kd.R (Kd.int .u8) 5 w base ok v L) (hb : Below w.heap.size w w2) : Kd.R (Kd.int .u8) 5 w2 base ok v L := by
  refine Kd.R_of_own (enc := Value.int .u8) (h1 := fun _ => rfl) ?_ h.1
  have ho := Kd.own_of_R (enc := Value.int .u8) (h1 := fun _ => rfl) h
  refine ⟨ho.1, ?_⟩
  rcases ho.2 with hn | ⟨g, cap, cur, hv, hg, hh, rest⟩
  · exact .inl hn
  · refine .inr ⟨g, cap, cur, hv, hg, ?_, rest⟩
    rw [hb.block g (by rcases Nat.lt_or_ge g w.heap.size with h | h
                       · exact h
                       · rw [Array.getElem?_eq_none h] at hh; cases hh)]
    exact hh
/-- The first byte of a bit string: how many bits of the last one are not its own. -/
def padOf (k : Int) : Int := (Int.tmod (wrap64 (8 - Int.tmod k 8)) 8) % 256
set_option maxHeartbeats 8000000 in
set_option maxRecDepth 100000 in
theorem bitEncode.calls (A0 : Option Addr) (c0 g cap : Nat) (B L : List Int) (k : Int) (w0 w : World) (hr0 : Kd.C (Kd.int .u8) w0 A0 B.length B) (hB : Below w0.heap.size w0 w) (hg : w0.heap.size ≤ g) (ho : Kd.R (Kd.int .u8) 5 w w0.heap.size (fun _ => True) (.slice (some ⟨g, 0, none⟩) L.length cap) L) (hcap : L.length ≤ cap) (hL : L.length = B.length + 1) :
    Calls Try.prog 130 #[.agg #[.slice A0 B.length c0, .int .i64 k], .slice (some ⟨g, 0, none⟩) L.length cap] w fun e w' => e = .returned (.tuple #[]) ∧ Kd.R (Kd.int .u8) 5 w' w0.heap.size (fun _ => True) (.slice (some ⟨g, 0, none⟩) L.length cap) (padOf k :: B) ∧ Below w0.heap.size w0 w' := by
  have hu122 := Try.underlying122
  have hi5 : (Try.prog.info? 5).map (·.size) = some 1 := by kernel_rfl
  have HR0 := Aside0.mk hr0
  have HO := Aside0.mk ho
  have HB := Aside0.mk hB
  have GE := Aside0.mk hg
  have LEN := Aside0.mk hL
  obtain ⟨A1, hA1, hcut⟩ : ∃ A1, A1 = (if cap = 1 then some ⟨g, 0, none⟩ else (some ⟨g, 0, none⟩ : Option Addr).map (·.add 1)) ∧ ∀ W : World, (Instr.slice 25 (.slice (some ⟨g, 0, none⟩) L.length cap) (some (.int .i64 1)) none none).run Try.prog W = .ok (.slice A1 (L.length - 1) (cap - 1)) W := ⟨_, rfl, cut_oneP_ (some ⟨g, 0, none⟩) L.length cap (by omega)⟩
  have HA := Aside0.mk (show B.length = 0 ∨ A1 = some ⟨g, 1, none⟩ from by
    rcases Nat.eq_zero_or_pos B.length with h | h
    · exact .inl h
    · right; rw [hA1, if_neg (by omega)]; rfl)
  obtain ⟨hx10_0, hf10_0⟩ := Kd.R_celln 0 ho (0 : Int) (by omega) (by omega)
  have p10 : ((0 : Int) < (L.length : Int)) = True := eq_true (by omega)
  have qi10 : (0 < L.length) = True := eq_true (by omega)
  rw [show (0 : Int).toNat = 0 from rfl] at hx10_0 hf10_0
  have LQ := Aside0.mk (show (0 : Int) < (L.length : Int) by omega)
  have glt : Aside0 (g < w.heap.size) := ⟨World.block_lt_of_cell? w _ hx10_0⟩
  clear hr0 ho hB hg hcap hL hA1
  go_enter Try.func130, Try.ntmps130
  go_wp2_with (first | ((with_reducible refine gate_dst (N := 2) rfl ?_); refine box_event ?hg (N := 2) ?hd (cs := #[.slice A0 B.length c0, .int .i64 k]) (t := 122) ?hr ?_; (case hd => rfl); (case hg => rfl); (case hr => first | (go_simp; done) | (go_simp; rfl)); intro gb hg w2 hbox hb; have HB1 := Aside0.mk (hb); have BK := Aside0.mk (hbox); have GB := Aside0.mk hg; have hc0 := (blk_cell BK.out 0).trans (show _ = some (.slice A0 B.length c0) from rfl); have hc1 := (blk_cell BK.out 1).trans (show _ = some (.int .i64 k) from rfl); have hf0 := blk_frozen BK.out 0; have hf1 := blk_frozen BK.out 1; have HO2 := Aside0.mk (show Kd.R (Kd.int .u8) 5 w2 w0.heap.size (fun _ => True) (.slice (some ⟨g, 0, none⟩) L.length cap) L from R_after HO.out hb); have hd0 := (Kd.R_celln 0 HO2.out (0 : Int) (by omega) LQ.out).1; have hd1 := (Kd.R_celln 0 HO2.out (0 : Int) (by omega) LQ.out).2; rw [show (0 : Int).toNat = 0 from rfl] at hd0 hd1; clear hb hbox hg) | ((with_reducible refine gate_store (t := 5) (p := 11) rfl ?_); refine store_event (t := 5) (p := 11) (v := ?vo_w12) (w1 := (w2.setCell ⟨g, (0 : Int).toNat, none⟩ (.int .u8 (padOf k)))) ?hg ?ho ?hn ?hr ?_; (case ho => rfl); (case hg => rfl); (case hn => rfl); (case hr => first | (go_simp; done) | (go_simp; rfl)); intro w12 hw; have HP := Kd.R_putg HO2.out (0 : Int) (padOf k); rw [← hw] at HP; have HO3 := Aside0.mk HP.1; have HB3 := Aside0.mk (show Below w0.heap.size w0 w12 from (below_step HB.out HB1.out).grown HP.2 (below_size (below_step HB.out HB1.out)) (fun q hq => by cases hq; exact GE.out)); have BK3 := Aside0.mk (show w12.heap[gb]? = _ from (HP.2.block gb (by have := blk_lt BK.out; omega) (by intro h; injection h with h; have := glt.out; have := GB.out; omega)).trans BK.out); clear hc0 hc1 hf0 hf1; have hc0 := (blk_cell BK3.out 0).trans (show _ = some (.slice A0 B.length c0) from rfl); have hf0 := blk_frozen BK3.out 0; clear HP hw))
  go_region_law (refine step_copy_tail (w0 := w0) w0.heap.size rfl (.tmp 13) (.tmp 15) 25 25 rfl Try.underlying25 hi5 g cap (cap - 1) (L.length - 1) B.length c0 A1 A0 (L.set (0 : Int).toNat (padOf k)) B (fun _ => True) rfl rfl (by rw [List.length_set]; (with_reducible repeat (first | apply Kd.R_drewN | apply Kd.R_drew)); exact HO3.out) (Kd.C_below HR0.out (by repeat (first | (with_reducible first | exact HB3.out | apply pw_below_drewN | apply below_drew1) | exact HB3.out))) rfl (by have := LEN.out; omega) (by rw [List.length_set]; exact LEN.out) HA.out (by repeat (first | (with_reducible first | exact HB3.out | apply pw_below_drewN | apply below_drew1) | exact HB3.out)) GE.out ?_; intro w13 ho hb hg; have HO4 := Aside0.mk (show Kd.R (Kd.int .u8) 5 w13 w0.heap.size (fun _ => True) (.slice (some ⟨g, 0, none⟩) L.length cap) (padOf k :: B) from by rw [List.length_set, take_set0 L (padOf k) (by have := LEN.out; omega)] at ho; exact ho); have HB4 := Aside0.mk hb; have BK4 := Aside0.mk (show w13.heap[gb]? = _ from (hg.block gb (by have := blk_lt BK3.out; exact this) (by intro h; injection h with h; have := glt.out; have := GB.out; omega)).trans BK3.out); have hc9 := (blk_cell BK4.out 0).trans (show _ = some (.slice A0 B.length c0) from rfl); have hf9 := blk_frozen BK4.out 0; clear ho hb hg)
  all_goals (go_wp2; (first | go_end0 | ((try simp only [Exit.inBlock, Exit.then]); refine bodyPost_ret (results_none rfl _ _ _) rfl ?_)); exact ⟨rfl, by (with_reducible repeat (first | apply Kd.R_drewN | apply Kd.R_drew)); exact HO4.out, by repeat (first | (with_reducible first | exact HB4.out | apply pw_below_drewN | apply below_drew1) | exact HB4.out)⟩)

set_option maxHeartbeats 8000000 in
set_option maxRecDepth 100000 in
theorem zzEncB.calls (A0 : Option Addr) (c0 : Nat) (B : List Int) (k : Int) (w : World) (hr0 : Kd.C (Kd.int .u8) w A0 B.length B) (hc0 : B.length ≤ c0) (hl : B.length ≤ 10000) :
    Calls Try.prog 80 #[.iface 122 (.agg #[.slice A0 B.length c0, .int .i64 k])] w fun e w' => ∃ v0_ : Value, e = .returned v0_ ∧ Kd.R (Kd.int .u8) 5 w' w.heap.size (fun _ => True) v0_ (padOf k :: B) ∧ Below w.heap.size w w' := by
  obtain ⟨n, hn⟩ : ∃ n : Int, n = (B.length : Int) + 1 := ⟨_, rfl⟩
  have A1 := Aside0.mk (show asn1_bitStringEncoder_Len.f B k = some n by unfold asn1_bitStringEncoder_Len.f wrap64; exact congrArg some (by omega))
  have C := Aside0.mk (show 0 ≤ n ∧ n.toNat * 1 ≤ 281474976710656 by omega)
  obtain ⟨L0, hL0⟩ : ∃ L0, L0 = List.replicate n.toNat (0 : Int) := ⟨_, rfl⟩
  have HL0 := Aside0.mk hL0
  have LL0 := Aside0.mk (show L0.length = B.length + 1 by rw [hL0, List.length_replicate]; omega)
  have HR0 := Aside0.mk hr0
  have HC0 := Aside0.mk hc0
  clear hr0 hc0 hl hL0 hn
  have hm1 := fun (w : World) => (show (Go.method 270 122 (.agg #[.slice A0 B.length c0, .int .i64 k]) "Len").run Try.prog w = .ok (131, .agg #[.slice A0 B.length c0, .int .i64 k]) w from by kernel_rfl)
  have hm2 := fun (w : World) => (show (Go.method 270 122 (.agg #[.slice A0 B.length c0, .int .i64 k]) "Encode").run Try.prog w = .ok (130, .agg #[.slice A0 B.length c0, .int .i64 k]) w from by kernel_rfl)
  go_enter Try.func80, Try.ntmps80
  go_wp2_with (first | (go_at_call 131; (with_reducible refine (asn1_bitStringEncoder_Len.calls A0 c0 B k n _ HR0.out HC0.out A1.out).mono ?_); rintro e w2 ⟨rfl, hb⟩; have HB := Aside0.mk hb; clear hb) | ((with_reducible refine gate_dst (N := 6) rfl ?_); refine Kd.R_make (Kd.int .u8) (w0 := w) w.heap.size 5 ?hg (N := 6) ?hd 25 (.tmp 5) (.tmp 5) rfl n rfl rfl Try.underlying25 (.int .u8 0) 1 info5 rfl (by decide) (by decide) 0 (okp := fun _ => True) (ok := fun _ => True) ?hzero (fun _ h => h) trivial C.out.1 C.out.2 ?hB ?hbase ?_; (case hd => rfl); (case hg => rfl); (case hzero => rfl); (case hB => exact HB.out); (case hbase => exact HB.out.size); intro v1 w1 ho hb hg_ hnew_; rw [← HL0.out] at ho; obtain ⟨g1, cap1, ev, gb, _⟩ := Kd.R_form ho (by rw [LL0.out]; omega); subst ev; have HO1 := Aside0.mk ho; have CP := Aside0.mk (Kd.R_reads' ho).2.1; have GE := Aside0.mk gb; have HB1 := Aside0.mk hb; clear ho hb hg_ hnew_ gb) | (go_at_call 130; (with_reducible refine (bitEncode.calls A0 c0 g1 cap1 B L0 k w w1 HR0.out HB1.out GE.out HO1.out CP.out LL0.out).mono ?_); rintro e w3 ⟨rfl, ho, hb⟩; have HO2 := Aside0.mk ho; have HB2 := Aside0.mk hb; clear ho hb))
  go_ret
  exact ⟨_, rfl, HO2.out, HB2.out⟩
set_option maxHeartbeats 8000000 in
set_option maxRecDepth 100000 in
theorem zzPutB.calls (A0 : Option Addr) (c0 : Nat) (B : List Int) (k : Int) (w : World) (hr0 : Kd.C (Kd.int .u8) w A0 B.length B) (hc0 : B.length ≤ c0) (hl : B.length ≤ 10000) :
    Calls Try.prog 65 #[.agg #[.slice A0 B.length c0, .int .i64 k]] w fun e w' => ∃ v0_ : Value, e = .returned v0_ ∧ Kd.R (Kd.int .u8) 5 w' w.heap.size (fun _ => True) v0_ (padOf k :: B) ∧ Below w.heap.size w w' := by
  have hu96 := Try.underlying96
  have HR0 := Aside0.mk hr0
  have HC0 := Aside0.mk hc0
  have HL := Aside0.mk hl
  clear hr0 hc0 hl
  go_enter Try.func65, Try.ntmps65
  go_wp2_with (first | ((with_reducible refine gate_dst (N := 1) rfl ?_); refine box_event ?hg (N := 1) ?hd (cs := #[.slice A0 B.length c0, .int .i64 k]) (t := 96) ?hr ?_; (case hd => rfl); (case hg => rfl); (case hr => first | (go_simp; done) | (go_simp; rfl)); intro gb hg w2 hbox hb; have HB := Aside0.mk (hb); have BK := Aside0.mk (hbox); have hc0 := (blk_cell BK.out 0).trans (show _ = some (.slice A0 B.length c0) from rfl); have hc1 := (blk_cell BK.out 1).trans (show _ = some (.int .i64 k) from rfl); have hf0 := blk_frozen BK.out 0; have hf1 := blk_frozen BK.out 1; clear hb hbox hg) | (go_at_call 80; (with_reducible refine (zzEncB.calls A0 c0 B k _ (Kd.C_below HR0.out HB.out) HC0.out HL.out).mono ?_); rintro e w3 ⟨v1, rfl, ho, hb⟩; have HO2 := Aside0.mk (Kd.R_lower ho HB.out.size); have HB2 := Aside0.mk (below_step HB.out hb); clear ho hb))
  go_ret
  exact ⟨_, rfl, HO2.out, HB2.out⟩
def impl_PutBits.f (B : List Int) (n : Int) : Option (List Int) := if B.length ≤ 100 ∧ 0 ≤ n ∧ n ≤ 80000 ∧ (B.length : Int) = wrap64 (Int.tdiv (wrap64 (n + 7)) 8) then some (padOf n :: B) else none
set_option maxHeartbeats 8000000 in
set_option maxRecDepth 100000 in
theorem impl_PutBits.calls (A0 : Option Addr) (c0 : Nat) (l0 : List Int) (a1 : Int) (r : List Int) (w : World) (hr0 : Kd.C (Kd.int .u8) w A0 l0.length l0) (hc0 : l0.length ≤ c0) (h : impl_PutBits.f l0 a1 = some r) :
    Calls Try.prog 35 #[.slice A0 l0.length c0, .int .i64 a1] w fun e w' => ∃ v0_ : Value, e = .returned (v0_) ∧ Kd.R (Kd.int .u8) 5 w' w.heap.size (fun _ => True) v0_ r ∧ Below w.heap.size w w' := by
  unfold impl_PutBits.f at h
  by_cases c : l0.length ≤ 100 ∧ 0 ≤ a1 ∧ a1 ≤ 80000 ∧ (l0.length : Int) = wrap64 (Int.tdiv (wrap64 (a1 + 7)) 8)
  · rw [if_pos c] at h
    obtain rfl := Option.some.inj h
    obtain ⟨k1, k2, k3, k4⟩ := c
    have hu96 := Try.underlying96
    have HR0 := Aside0.mk hr0
    have HC0 := Aside0.mk hc0
    have HL := Aside0.mk k1
    have HB := Aside0.mk (Below.refl w.heap.size w)
    have HS := Aside0.mk (show impl_short.f l0 = some true by unfold impl_short.f; rw [decide_eq_true (by omega)])
    have HP := Aside0.mk (show impl_copied.f l0 = some l0 by unfold impl_copied.f; rw [if_pos (by simp; omega)]; rfl)
    have d1 : decide (a1 < 0) = false := decide_eq_false (by omega)
    have d2 : decide (80000 < a1) = false := decide_eq_false (by omega)
    have d3 : ((l0.length : Int) != wrap64 (Int.tdiv (wrap64 (a1 + 7)) 8)) = false := bne_eq_false_iff_eq.mpr k4
    have d4 : ((l0.length : Int) == wrap64 (Int.tdiv (wrap64 (a1 + 7)) 8)) = true := beq_iff_eq.mpr k4
    clear hr0 hc0 h k1 k2 k3 k4
    go_enter Try.func35, Try.ntmps35
    go_wp2_with (first | (go_at_call 48; (with_reducible refine (impl_short.calls _ _ l0 true _ HR0.out HC0.out HS.out).mono ?_); rintro e w6 ⟨rfl, hd⟩; have HB4 := Aside0.mk (below_step HB.out hd.below); clear hd) | (go_at_call 44; (with_reducible refine (impl_copied.calls _ _ l0 l0 _ (Kd.C_below HR0.out HB4.out) HC0.out HP.out).mono ?_); rintro e w7 ⟨v0, rfl, ho, hb⟩; have HB5 := Aside0.mk (below_step HB4.out hb); obtain ⟨A5, c5, e5⟩ := Kd.R_slice ho; subst e5; have HO5 := Aside0.mk (Kd.R_reads' ho).2.2; have HC5 := Aside0.mk (Kd.R_reads' ho).2.1; clear hb ho) | (go_at_call 65; (with_reducible refine (zzPutB.calls A5 c5 l0 a1 _ HO5.out HC5.out (by have := HL.out; omega)).mono ?_); rintro e w8 ⟨v1, rfl, ho, hb⟩; have HO := Aside0.mk (Kd.R_lower ho HB5.out.size); have HB6 := Aside0.mk (below_step HB5.out hb); clear ho hb))
    go_ret
    exact ⟨_, rfl, HO.out, HB6.out⟩
  · rw [if_neg c] at h
    cases h

-- NOT PRINTED: function 89 (asn1_parseBitString)

-- NOT PRINTED: function 66 (asn1_ZZBits)

/-- The bits of the last byte that are not a bit string's own. -/
def bitsRest (l : List Int) : Int := Go.bits .and .u8 (rd l (wrap64 ((l.length : Int) - 1))) (((shl .u8 1 (rd l 0)) - 1) % 256)
def isBits (l : List Int) : Prop := 0 < l.length ∧ rd l 0 ≤ 7 ∧ (l.length = 1 → rd l 0 = 0) ∧ bitsRest l = 0
theorem cut_one_ (A : Option Addr) (n c : Nat) (h : 1 ≤ n) : ∀ W : World, (Instr.slice 25 (.slice A n c) (some (.int .i64 1)) none none).run Try.prog W = .ok (.slice (if c = 1 then A else A.map (·.add 1)) (n - 1) (c - 1)) W := by
  intro W
  obtain ⟨i0, hi0, _, hsz, _⟩ := info_parts info5
  have hel : Try.prog.elem 25 = 5 := by simp [Program.elem, Try.underlying25]
  have hu : Try.prog.underlying 25 = some (.slice (Try.prog.elem 25)) := by rw [hel]; exact Try.underlying25
  have := run_slice_l W 25 A n c hu .i64 (1 : Int) (by omega) (by omega)
  rw [this, hel]
  simp [sizeOf, typeInfo, hi0, hsz, sliced, Result.andThen]
def BitsBad (w : World) (e : Ending) (w' : World) : Prop := ∃ T x, e = .returned (.tuple #[.agg #[.slice none 0 0, .int .i64 0], .iface T x]) ∧ Below w.heap.size w w'
def BitsGood (w : World) (A0 : Option Addr) (c0 : Nat) (l : List Int) (e : Ending) (w' : World) : Prop := e = .returned (.tuple #[.agg #[.slice (if c0 = 1 then A0 else A0.map (·.add 1)) (l.length - 1) (c0 - 1), .int .i64 (8 * ((l.length : Int) - 1) - rd l 0)], .nilIface]) ∧ Below w.heap.size w w'

set_option maxHeartbeats 4000000 in
theorem parseBits_empty (A0 : Option Addr) (c0 : Nat) (w : World) : Calls Try.prog 89 #[.slice A0 0 c0] w (BitsBad w) := by
  have hu1 := Try.underlying96
  have hu2 := Try.underlying135
  have HB := Aside0.mk (Below.refl w.heap.size w)
  go_enter Try.func89, Try.ntmps89
  go_wp2_with (first | ((with_reducible refine gate_dst (N := 2) rfl ?_); (try (refine gate_guard (by rfl) ?_; dsimp only)); refine box_event ?hg (N := 2) ?hd (cs := #[.slice none 0 0, .int .i64 0]) (t := 96) ?hr ?_; (case hd => rfl); (case hg => rfl); (case hr => first | (go_simp; done) | (go_simp; rfl)); intro gb hg w3 hbox hb; have BK := Aside0.mk hbox; have HB2 := Aside0.mk (below_step HB.out hb); have GE := Aside0.mk ((by rw [hg]; exact HB.out.size) : w.heap.size ≤ gb); have hc0 := (blk_cell BK.out 0).trans (show _ = some (.slice none 0 0) from rfl); have hc1 := (blk_cell BK.out 1).trans (show _ = some (.int .i64 0) from rfl); have hf0 := blk_frozen BK.out 0; have hf1 := blk_frozen BK.out 1; clear hbox hb; clear hg))
  repeat (go_quiet (fail))
  go_wp2
  refine bodyPost_ret (results_ct rfl _ _ gb 96 #[.slice none 0 0, .int .i64 0] (0, 0) _ rfl (by (with_reducible repeat (first | refine blk_drewN ?_ _ | refine blk_drew ?_ | refine blk_alloc ?_ _)); exact BK.out) Try.underlying96 rfl (by kernel_rfl)) rfl ?_
  exact ⟨_, _, rfl, by repeat (first | (with_reducible first | exact HB2.out | apply below_alloc | apply pw_below_drewN | apply below_drew1 | refine below_set ?_ GE.out) | exact HB2.out)⟩

set_option maxHeartbeats 8000000 in
set_option maxRecDepth 100000 in
theorem parseBits_onePos (A0 : Option Addr) (c0 : Nat) (l0 : List Int) (w : World) (hr0 : Kd.C (Kd.int .u8) w A0 l0.length l0) (hbb : 0 ≤ rd l0 0 ∧ rd l0 0 ≤ 255) (hl : l0.length ≤ 10000) (h0 : 0 < l0.length) (h7 : rd l0 0 ≤ 7) (h1 : l0.length = 1) (h2 : 0 < rd l0 0) : Calls Try.prog 89 #[.slice A0 l0.length c0] w (BitsBad w) := by
  have hu1 := Try.underlying96
  have hu2 := Try.underlying135
  obtain ⟨A1, hA1, hcut0⟩ : ∃ A1, A1 = (if c0 = 1 then A0 else A0.map (·.add 1)) ∧ ∀ W : World, (Instr.slice 25 (.slice A0 l0.length c0) (some (.int .i64 1)) none none).run Try.prog W = .ok (.slice A1 (l0.length - 1) (c0 - 1)) W := ⟨_, rfl, cut_one_ A0 l0.length c0 (by omega)⟩
  have HA := Aside0.mk hA1
  have hcut := Aside0.mk hcut0
  clear hA1 hcut0
  have HB := Aside0.mk (Below.refl w.heap.size w)
  have z1 : ((l0.length : Int) == 0) = false := by simp; intro h; rw [h] at h0; simp at h0
  have z2 : ((l0.length : Int) == 1) = true := by rw [h1]; rfl
  have z4 : decide (0 < (l0.length : Int)) = true := decide_eq_true (by omega)
  have z5 : wrap64 (rd l0 0) = rd l0 0 := by unfold wrap64; omega
  have z6 : decide (7 < rd l0 0) = false := decide_eq_false (by omega)
  have z7 : decide (0 < rd l0 0) = true := decide_eq_true (by omega)
  obtain ⟨ad, e1, hx1⟩ := Kd.at_int hr0 0 (by omega) (by omega)
  subst e1
  have qi : (0 < l0.length) = True := eq_true h0
  (try rw [show ((0 : Int)).toNat = 0 from rfl] at hx1)
  (try rw [Addr.add_zero'] at hx1)
  have hb1 := eq_true hbb.1
  clear hl h0 hr0 hbb h7 h1 h2
  go_enter Try.func89, Try.ntmps89
  go_wp2_with (first | ((with_reducible refine gate_dst (N := 2) rfl ?_); (try (refine gate_guard (by rfl) ?_; dsimp only)); refine box_event ?hg (N := 2) ?hd (cs := #[.slice none 0 0, .int .i64 0]) (t := 96) ?hr ?_; (case hd => rfl); (case hg => rfl); (case hr => first | (go_simp; done) | (go_simp; rfl)); intro gb hg w3 hbox hb; have BK := Aside0.mk hbox; have HB2 := Aside0.mk (below_step HB.out hb); have GE := Aside0.mk ((by rw [hg]; exact HB.out.size) : w.heap.size ≤ gb); have hc0 := (blk_cell BK.out 0).trans (show _ = some (.slice none 0 0) from rfl); have hc1 := (blk_cell BK.out 1).trans (show _ = some (.int .i64 0) from rfl); have hf0 := blk_frozen BK.out 0; have hf1 := blk_frozen BK.out 1; have hy1 := pw_cell_below HB2.out hx1; clear hbox hb; clear hg))
  repeat (go_quiet (fail))
  go_wp2
  refine bodyPost_ret (results_ct rfl _ _ gb 96 #[.slice none 0 0, .int .i64 0] (0, 0) _ rfl (by (with_reducible repeat (first | refine blk_drewN ?_ _ | refine blk_drew ?_ | refine blk_alloc ?_ _)); exact BK.out) Try.underlying96 rfl (by kernel_rfl)) rfl ?_
  exact ⟨_, _, rfl, by repeat (first | (with_reducible first | exact HB2.out | apply below_alloc | apply pw_below_drewN | apply below_drew1 | refine below_set ?_ GE.out) | exact HB2.out)⟩

set_option maxHeartbeats 8000000 in
set_option maxRecDepth 100000 in
theorem parseBits_badOne (A0 : Option Addr) (c0 : Nat) (l0 : List Int) (w : World) (hr0 : Kd.C (Kd.int .u8) w A0 l0.length l0) (hbb : 0 ≤ rd l0 0 ∧ rd l0 0 ≤ 255) (hl : l0.length ≤ 10000) (h0 : 0 < l0.length) (h7 : rd l0 0 ≤ 7) (h1 : l0.length = 1) (h2 : rd l0 0 ≤ 0) (hz : bitsRest l0 ≠ 0) : Calls Try.prog 89 #[.slice A0 l0.length c0] w (BitsBad w) := by
  have hu1 := Try.underlying96
  have hu2 := Try.underlying135
  obtain ⟨A1, hA1, hcut0⟩ : ∃ A1, A1 = (if c0 = 1 then A0 else A0.map (·.add 1)) ∧ ∀ W : World, (Instr.slice 25 (.slice A0 l0.length c0) (some (.int .i64 1)) none none).run Try.prog W = .ok (.slice A1 (l0.length - 1) (c0 - 1)) W := ⟨_, rfl, cut_one_ A0 l0.length c0 (by omega)⟩
  have HA := Aside0.mk hA1
  have hcut := Aside0.mk hcut0
  clear hA1 hcut0
  have HB := Aside0.mk (Below.refl w.heap.size w)
  have z1 : ((l0.length : Int) == 0) = false := by simp; intro h; rw [h] at h0; simp at h0
  have z2 : ((l0.length : Int) == 1) = true := by rw [h1]; rfl
  have z4 : decide (0 < (l0.length : Int)) = true := decide_eq_true (by omega)
  have z5 : wrap64 (rd l0 0) = rd l0 0 := by unfold wrap64; omega
  have z6 : decide (7 < rd l0 0) = false := decide_eq_false (by omega)
  have z7 : decide (0 < rd l0 0) = false := decide_eq_false (by omega)
  obtain ⟨ji, hji⟩ : ∃ j_ : Int, (wrap64 ((l0.length : Int) - 1)) = j_ := ⟨_, rfl⟩
  have hji0 : ji = (l0.length : Int) - 1 := by rw [← hji]; unfold wrap64; omega
  have hjiw : (IntKind.i64.wrap ((l0.length : Int) - 1)) = ji := (i64_w _).trans hji
  have p2 : 0 ≤ ji := by omega
  have q2 : ji < (l0.length : Int) := by omega
  have HE := Aside0.mk (show wrap64 (wrap64 (ji * 8) - rd l0 0) = 8 * ((l0.length : Int) - 1) - rd l0 0 by unfold wrap64; omega)
  unfold bitsRest at hz
  rw [hji] at hz
  obtain ⟨sh, hsh⟩ : ∃ j_ : Int, (shl .u8 1 (rd l0 0)) = j_ := ⟨_, rfl⟩
  rw [hsh] at hz
  have hsh_ : (IntKind.u8.wrap (1 * 2 ^ min (rd l0 0).toNat 8)) = sh := hsh
  have hshz : (IntKind.u8.wrap (1 * 2 ^ (rd l0 0).toNat)) = sh := shl_small hsh (show rd l0 0 ≤ 8 by omega)
  have hshu : (IntKind.u8.wrap (2 ^ min (rd l0 0).toNat 8)) = sh := by have h_ := hsh_; rw [Int.one_mul] at h_; exact h_
  have hshv : (IntKind.u8.wrap (2 ^ (rd l0 0).toNat)) = sh := by have h_ := hshz; rw [Int.one_mul] at h_; exact h_
  have zp : decide (0 ≤ rd l0 0) = true := decide_eq_true hbb.1
  have zz1 : ((Go.bits .and .u8 (rd l0 (ji)) (((sh) - 1) % 256)) == 0) = false := beq_eq_false_iff_ne.mpr hz
  have zz2 : ((Go.bits .and .u8 (rd l0 (ji)) (((sh) - 1) % 256)) != 0) = true := bne_iff_ne.mpr hz
  obtain ⟨ad, e1, hx1⟩ := Kd.at_int hr0 0 (by omega) (by omega)
  obtain ⟨ad2, e2, hx2⟩ := Kd.at_int hr0 ji p2 q2
  subst e1
  obtain rfl : ad = ad2 := by injection e2
  have qi : (0 < l0.length) = True := eq_true h0
  (try rw [show ((0 : Int)).toNat = 0 from rfl] at hx1)
  (try rw [Addr.add_zero'] at hx1)
  replace p2 := eq_true p2
  replace q2 := eq_true q2
  have hb1 := eq_true hbb.1
  clear h2 hji0 h1 hl h0 hr0 hbb h7 hz e2 hsh
  go_enter Try.func89, Try.ntmps89
  go_wp2_with (first | ((with_reducible refine gate_dst (N := 2) rfl ?_); (try (refine gate_guard (by rfl) ?_; dsimp only)); refine box_event ?hg (N := 2) ?hd (cs := #[.slice none 0 0, .int .i64 0]) (t := 96) ?hr ?_; (case hd => rfl); (case hg => rfl); (case hr => first | (go_simp; done) | (go_simp; rfl)); intro gb hg w3 hbox hb; have BK := Aside0.mk hbox; have HB2 := Aside0.mk (below_step HB.out hb); have GE := Aside0.mk ((by rw [hg]; exact HB.out.size) : w.heap.size ≤ gb); have hc0 := (blk_cell BK.out 0).trans (show _ = some (.slice none 0 0) from rfl); have hc1 := (blk_cell BK.out 1).trans (show _ = some (.int .i64 0) from rfl); have hf0 := blk_frozen BK.out 0; have hf1 := blk_frozen BK.out 1; have hy1 := pw_cell_below HB2.out hx1; have hy2 := pw_cell_below HB2.out hx2; clear hbox hb; clear hg))
  repeat (go_quiet (fail))
  go_wp2
  refine bodyPost_ret (results_ct rfl _ _ gb 96 #[.slice none 0 0, .int .i64 0] (0, 0) _ rfl (by (with_reducible repeat (first | refine blk_drewN ?_ _ | refine blk_drew ?_ | refine blk_alloc ?_ _)); exact BK.out) Try.underlying96 rfl (by kernel_rfl)) rfl ?_
  exact ⟨_, _, rfl, by repeat (first | (with_reducible first | exact HB2.out | apply below_alloc | apply pw_below_drewN | apply below_drew1 | refine below_set ?_ GE.out) | exact HB2.out)⟩

set_option maxHeartbeats 8000000 in
set_option maxRecDepth 100000 in
theorem parseBits_goodOne (A0 : Option Addr) (c0 : Nat) (l0 : List Int) (w : World) (hr0 : Kd.C (Kd.int .u8) w A0 l0.length l0) (hbb : 0 ≤ rd l0 0 ∧ rd l0 0 ≤ 255) (hl : l0.length ≤ 10000) (h0 : 0 < l0.length) (h7 : rd l0 0 ≤ 7) (h1 : l0.length = 1) (h2 : rd l0 0 ≤ 0) (hz : bitsRest l0 = 0) : Calls Try.prog 89 #[.slice A0 l0.length c0] w (BitsGood w A0 c0 l0) := by
  have hu1 := Try.underlying96
  have hu2 := Try.underlying135
  obtain ⟨A1, hA1, hcut0⟩ : ∃ A1, A1 = (if c0 = 1 then A0 else A0.map (·.add 1)) ∧ ∀ W : World, (Instr.slice 25 (.slice A0 l0.length c0) (some (.int .i64 1)) none none).run Try.prog W = .ok (.slice A1 (l0.length - 1) (c0 - 1)) W := ⟨_, rfl, cut_one_ A0 l0.length c0 (by omega)⟩
  have HA := Aside0.mk hA1
  have hcut := Aside0.mk hcut0
  clear hA1 hcut0
  have HB := Aside0.mk (Below.refl w.heap.size w)
  have z1 : ((l0.length : Int) == 0) = false := by simp; intro h; rw [h] at h0; simp at h0
  have z2 : ((l0.length : Int) == 1) = true := by rw [h1]; rfl
  have z4 : decide (0 < (l0.length : Int)) = true := decide_eq_true (by omega)
  have z5 : wrap64 (rd l0 0) = rd l0 0 := by unfold wrap64; omega
  have z6 : decide (7 < rd l0 0) = false := decide_eq_false (by omega)
  have z7 : decide (0 < rd l0 0) = false := decide_eq_false (by omega)
  obtain ⟨ji, hji⟩ : ∃ j_ : Int, (wrap64 ((l0.length : Int) - 1)) = j_ := ⟨_, rfl⟩
  have hji0 : ji = (l0.length : Int) - 1 := by rw [← hji]; unfold wrap64; omega
  have hjiw : (IntKind.i64.wrap ((l0.length : Int) - 1)) = ji := (i64_w _).trans hji
  have p2 : 0 ≤ ji := by omega
  have q2 : ji < (l0.length : Int) := by omega
  have HE := Aside0.mk (show wrap64 (wrap64 (ji * 8) - rd l0 0) = 8 * ((l0.length : Int) - 1) - rd l0 0 by unfold wrap64; omega)
  unfold bitsRest at hz
  rw [hji] at hz
  obtain ⟨sh, hsh⟩ : ∃ j_ : Int, (shl .u8 1 (rd l0 0)) = j_ := ⟨_, rfl⟩
  rw [hsh] at hz
  have hsh_ : (IntKind.u8.wrap (1 * 2 ^ min (rd l0 0).toNat 8)) = sh := hsh
  have hshz : (IntKind.u8.wrap (1 * 2 ^ (rd l0 0).toNat)) = sh := shl_small hsh (show rd l0 0 ≤ 8 by omega)
  have hshu : (IntKind.u8.wrap (2 ^ min (rd l0 0).toNat 8)) = sh := by have h_ := hsh_; rw [Int.one_mul] at h_; exact h_
  have hshv : (IntKind.u8.wrap (2 ^ (rd l0 0).toNat)) = sh := by have h_ := hshz; rw [Int.one_mul] at h_; exact h_
  have zp : decide (0 ≤ rd l0 0) = true := decide_eq_true hbb.1
  have zz1 : ((Go.bits .and .u8 (rd l0 (ji)) (((sh) - 1) % 256)) == 0) = true := beq_iff_eq.mpr hz
  have zz2 : ((Go.bits .and .u8 (rd l0 (ji)) (((sh) - 1) % 256)) != 0) = false := bne_eq_false_iff_eq.mpr hz
  obtain ⟨ad, e1, hx1⟩ := Kd.at_int hr0 0 (by omega) (by omega)
  obtain ⟨ad2, e2, hx2⟩ := Kd.at_int hr0 ji p2 q2
  subst e1
  obtain rfl : ad = ad2 := by injection e2
  have qi : (0 < l0.length) = True := eq_true h0
  (try rw [show ((0 : Int)).toNat = 0 from rfl] at hx1)
  (try rw [Addr.add_zero'] at hx1)
  replace p2 := eq_true p2
  replace q2 := eq_true q2
  have hb1 := eq_true hbb.1
  clear h2 hji0 h1 hl h0 hr0 hbb h7 hz e2 hsh
  go_enter Try.func89, Try.ntmps89
  go_wp2_with (first | ((with_reducible refine gate_dst (N := 2) rfl ?_); (try (refine gate_guard (by rfl) ?_; dsimp only)); refine box_event ?hg (N := 2) ?hd (cs := #[.slice none 0 0, .int .i64 0]) (t := 96) ?hr ?_; (case hd => rfl); (case hg => rfl); (case hr => first | (go_simp; done) | (go_simp; rfl)); intro gb hg w3 hbox hb; have BK := Aside0.mk hbox; have HB2 := Aside0.mk (below_step HB.out hb); have GE := Aside0.mk ((by rw [hg]; exact HB.out.size) : w.heap.size ≤ gb); have hc0 := (blk_cell BK.out 0).trans (show _ = some (.slice none 0 0) from rfl); have hc1 := (blk_cell BK.out 1).trans (show _ = some (.int .i64 0) from rfl); have hf0 := blk_frozen BK.out 0; have hf1 := blk_frozen BK.out 1; have hcut1 := hcut.out; have hy1 := pw_cell_below HB2.out hx1; have hy2 := pw_cell_below HB2.out hx2; clear hbox hb; clear hg))
  repeat (go_quiet (fail))
  go_wp2
  refine bodyPost_ret (results_ct rfl _ _ gb 96 #[.slice A1 (l0.length - 1) (c0 - 1), .int .i64 (8 * ((l0.length : Int) - 1) - rd l0 0)] (0, 0) _ rfl (by (with_reducible repeat (first | refine blk_drewN ?_ _ | refine blk_drew ?_ | refine blk_alloc ?_ _)); refine blk_put (cs := #[.slice none 0 0, .int .i64 (8 * ((l0.length : Int) - 1) - rd l0 0)]) ?_ 0 _ rfl; (with_reducible repeat (first | refine blk_drewN ?_ _ | refine blk_drew ?_ | refine blk_alloc ?_ _)); (try rw [HE.out]); refine blk_put (cs := #[.slice none 0 0, .int .i64 0]) ?_ 1 _ rfl; (with_reducible repeat (first | refine blk_drewN ?_ _ | refine blk_drew ?_ | refine blk_alloc ?_ _)); exact BK.out) Try.underlying96 rfl (by kernel_rfl)) rfl ?_
  exact ⟨by have h_ := HA.out; subst h_; rfl, by repeat (first | (with_reducible first | exact HB2.out | apply below_alloc | apply pw_below_drewN | apply below_drew1 | refine below_set ?_ GE.out) | exact HB2.out)⟩

set_option maxHeartbeats 8000000 in
set_option maxRecDepth 100000 in
theorem parseBits_badMoreP (A0 : Option Addr) (c0 : Nat) (l0 : List Int) (w : World) (hr0 : Kd.C (Kd.int .u8) w A0 l0.length l0) (hbb : 0 ≤ rd l0 0 ∧ rd l0 0 ≤ 255) (hl : l0.length ≤ 10000) (h0 : 0 < l0.length) (h7 : rd l0 0 ≤ 7) (h1 : l0.length ≠ 1) (h2 : 0 < rd l0 0) (hz : bitsRest l0 ≠ 0) : Calls Try.prog 89 #[.slice A0 l0.length c0] w (BitsBad w) := by
  have hu1 := Try.underlying96
  have hu2 := Try.underlying135
  obtain ⟨A1, hA1, hcut0⟩ : ∃ A1, A1 = (if c0 = 1 then A0 else A0.map (·.add 1)) ∧ ∀ W : World, (Instr.slice 25 (.slice A0 l0.length c0) (some (.int .i64 1)) none none).run Try.prog W = .ok (.slice A1 (l0.length - 1) (c0 - 1)) W := ⟨_, rfl, cut_one_ A0 l0.length c0 (by omega)⟩
  have HA := Aside0.mk hA1
  have hcut := Aside0.mk hcut0
  clear hA1 hcut0
  have HB := Aside0.mk (Below.refl w.heap.size w)
  have z1 : ((l0.length : Int) == 0) = false := by simp; intro h; rw [h] at h0; simp at h0
  have z2 : ((l0.length : Int) == 1) = false := by simp; omega
  have z4 : decide (0 < (l0.length : Int)) = true := decide_eq_true (by omega)
  have z5 : wrap64 (rd l0 0) = rd l0 0 := by unfold wrap64; omega
  have z6 : decide (7 < rd l0 0) = false := decide_eq_false (by omega)
  have z7 : decide (0 < rd l0 0) = true := decide_eq_true (by omega)
  obtain ⟨ji, hji⟩ : ∃ j_ : Int, (wrap64 ((l0.length : Int) - 1)) = j_ := ⟨_, rfl⟩
  have hji0 : ji = (l0.length : Int) - 1 := by rw [← hji]; unfold wrap64; omega
  have hjiw : (IntKind.i64.wrap ((l0.length : Int) - 1)) = ji := (i64_w _).trans hji
  have p2 : 0 ≤ ji := by omega
  have q2 : ji < (l0.length : Int) := by omega
  have HE := Aside0.mk (show wrap64 (wrap64 (ji * 8) - rd l0 0) = 8 * ((l0.length : Int) - 1) - rd l0 0 by unfold wrap64; omega)
  unfold bitsRest at hz
  rw [hji] at hz
  obtain ⟨sh, hsh⟩ : ∃ j_ : Int, (shl .u8 1 (rd l0 0)) = j_ := ⟨_, rfl⟩
  rw [hsh] at hz
  have hsh_ : (IntKind.u8.wrap (1 * 2 ^ min (rd l0 0).toNat 8)) = sh := hsh
  have hshz : (IntKind.u8.wrap (1 * 2 ^ (rd l0 0).toNat)) = sh := shl_small hsh (show rd l0 0 ≤ 8 by omega)
  have hshu : (IntKind.u8.wrap (2 ^ min (rd l0 0).toNat 8)) = sh := by have h_ := hsh_; rw [Int.one_mul] at h_; exact h_
  have hshv : (IntKind.u8.wrap (2 ^ (rd l0 0).toNat)) = sh := by have h_ := hshz; rw [Int.one_mul] at h_; exact h_
  have zp : decide (0 ≤ rd l0 0) = true := decide_eq_true hbb.1
  have zz1 : ((Go.bits .and .u8 (rd l0 (ji)) (((sh) - 1) % 256)) == 0) = false := beq_eq_false_iff_ne.mpr hz
  have zz2 : ((Go.bits .and .u8 (rd l0 (ji)) (((sh) - 1) % 256)) != 0) = true := bne_iff_ne.mpr hz
  obtain ⟨ad, e1, hx1⟩ := Kd.at_int hr0 0 (by omega) (by omega)
  obtain ⟨ad2, e2, hx2⟩ := Kd.at_int hr0 ji p2 q2
  subst e1
  obtain rfl : ad = ad2 := by injection e2
  have qi : (0 < l0.length) = True := eq_true h0
  (try rw [show ((0 : Int)).toNat = 0 from rfl] at hx1)
  (try rw [Addr.add_zero'] at hx1)
  replace p2 := eq_true p2
  replace q2 := eq_true q2
  have hb1 := eq_true hbb.1
  clear h2 hji0 h1 hl h0 hr0 hbb h7 hz e2 hsh
  go_enter Try.func89, Try.ntmps89
  go_wp2_with (first | ((with_reducible refine gate_dst (N := 2) rfl ?_); (try (refine gate_guard (by rfl) ?_; dsimp only)); refine box_event ?hg (N := 2) ?hd (cs := #[.slice none 0 0, .int .i64 0]) (t := 96) ?hr ?_; (case hd => rfl); (case hg => rfl); (case hr => first | (go_simp; done) | (go_simp; rfl)); intro gb hg w3 hbox hb; have BK := Aside0.mk hbox; have HB2 := Aside0.mk (below_step HB.out hb); have GE := Aside0.mk ((by rw [hg]; exact HB.out.size) : w.heap.size ≤ gb); have hc0 := (blk_cell BK.out 0).trans (show _ = some (.slice none 0 0) from rfl); have hc1 := (blk_cell BK.out 1).trans (show _ = some (.int .i64 0) from rfl); have hf0 := blk_frozen BK.out 0; have hf1 := blk_frozen BK.out 1; have hy1 := pw_cell_below HB2.out hx1; have hy2 := pw_cell_below HB2.out hx2; clear hbox hb; clear hg))
  repeat (go_quiet (fail))
  go_wp2
  refine bodyPost_ret (results_ct rfl _ _ gb 96 #[.slice none 0 0, .int .i64 0] (0, 0) _ rfl (by (with_reducible repeat (first | refine blk_drewN ?_ _ | refine blk_drew ?_ | refine blk_alloc ?_ _)); exact BK.out) Try.underlying96 rfl (by kernel_rfl)) rfl ?_
  exact ⟨_, _, rfl, by repeat (first | (with_reducible first | exact HB2.out | apply below_alloc | apply pw_below_drewN | apply below_drew1 | refine below_set ?_ GE.out) | exact HB2.out)⟩

set_option maxHeartbeats 8000000 in
set_option maxRecDepth 100000 in
theorem parseBits_goodMoreP (A0 : Option Addr) (c0 : Nat) (l0 : List Int) (w : World) (hr0 : Kd.C (Kd.int .u8) w A0 l0.length l0) (hbb : 0 ≤ rd l0 0 ∧ rd l0 0 ≤ 255) (hl : l0.length ≤ 10000) (h0 : 0 < l0.length) (h7 : rd l0 0 ≤ 7) (h1 : l0.length ≠ 1) (h2 : 0 < rd l0 0) (hz : bitsRest l0 = 0) : Calls Try.prog 89 #[.slice A0 l0.length c0] w (BitsGood w A0 c0 l0) := by
  have hu1 := Try.underlying96
  have hu2 := Try.underlying135
  obtain ⟨A1, hA1, hcut0⟩ : ∃ A1, A1 = (if c0 = 1 then A0 else A0.map (·.add 1)) ∧ ∀ W : World, (Instr.slice 25 (.slice A0 l0.length c0) (some (.int .i64 1)) none none).run Try.prog W = .ok (.slice A1 (l0.length - 1) (c0 - 1)) W := ⟨_, rfl, cut_one_ A0 l0.length c0 (by omega)⟩
  have HA := Aside0.mk hA1
  have hcut := Aside0.mk hcut0
  clear hA1 hcut0
  have HB := Aside0.mk (Below.refl w.heap.size w)
  have z1 : ((l0.length : Int) == 0) = false := by simp; intro h; rw [h] at h0; simp at h0
  have z2 : ((l0.length : Int) == 1) = false := by simp; omega
  have z4 : decide (0 < (l0.length : Int)) = true := decide_eq_true (by omega)
  have z5 : wrap64 (rd l0 0) = rd l0 0 := by unfold wrap64; omega
  have z6 : decide (7 < rd l0 0) = false := decide_eq_false (by omega)
  have z7 : decide (0 < rd l0 0) = true := decide_eq_true (by omega)
  obtain ⟨ji, hji⟩ : ∃ j_ : Int, (wrap64 ((l0.length : Int) - 1)) = j_ := ⟨_, rfl⟩
  have hji0 : ji = (l0.length : Int) - 1 := by rw [← hji]; unfold wrap64; omega
  have hjiw : (IntKind.i64.wrap ((l0.length : Int) - 1)) = ji := (i64_w _).trans hji
  have p2 : 0 ≤ ji := by omega
  have q2 : ji < (l0.length : Int) := by omega
  have HE := Aside0.mk (show wrap64 (wrap64 (ji * 8) - rd l0 0) = 8 * ((l0.length : Int) - 1) - rd l0 0 by unfold wrap64; omega)
  unfold bitsRest at hz
  rw [hji] at hz
  obtain ⟨sh, hsh⟩ : ∃ j_ : Int, (shl .u8 1 (rd l0 0)) = j_ := ⟨_, rfl⟩
  rw [hsh] at hz
  have hsh_ : (IntKind.u8.wrap (1 * 2 ^ min (rd l0 0).toNat 8)) = sh := hsh
  have hshz : (IntKind.u8.wrap (1 * 2 ^ (rd l0 0).toNat)) = sh := shl_small hsh (show rd l0 0 ≤ 8 by omega)
  have hshu : (IntKind.u8.wrap (2 ^ min (rd l0 0).toNat 8)) = sh := by have h_ := hsh_; rw [Int.one_mul] at h_; exact h_
  have hshv : (IntKind.u8.wrap (2 ^ (rd l0 0).toNat)) = sh := by have h_ := hshz; rw [Int.one_mul] at h_; exact h_
  have zp : decide (0 ≤ rd l0 0) = true := decide_eq_true hbb.1
  have zz1 : ((Go.bits .and .u8 (rd l0 (ji)) (((sh) - 1) % 256)) == 0) = true := beq_iff_eq.mpr hz
  have zz2 : ((Go.bits .and .u8 (rd l0 (ji)) (((sh) - 1) % 256)) != 0) = false := bne_eq_false_iff_eq.mpr hz
  obtain ⟨ad, e1, hx1⟩ := Kd.at_int hr0 0 (by omega) (by omega)
  obtain ⟨ad2, e2, hx2⟩ := Kd.at_int hr0 ji p2 q2
  subst e1
  obtain rfl : ad = ad2 := by injection e2
  have qi : (0 < l0.length) = True := eq_true h0
  (try rw [show ((0 : Int)).toNat = 0 from rfl] at hx1)
  (try rw [Addr.add_zero'] at hx1)
  replace p2 := eq_true p2
  replace q2 := eq_true q2
  have hb1 := eq_true hbb.1
  clear h2 hji0 h1 hl h0 hr0 hbb h7 hz e2 hsh
  go_enter Try.func89, Try.ntmps89
  go_wp2_with (first | ((with_reducible refine gate_dst (N := 2) rfl ?_); (try (refine gate_guard (by rfl) ?_; dsimp only)); refine box_event ?hg (N := 2) ?hd (cs := #[.slice none 0 0, .int .i64 0]) (t := 96) ?hr ?_; (case hd => rfl); (case hg => rfl); (case hr => first | (go_simp; done) | (go_simp; rfl)); intro gb hg w3 hbox hb; have BK := Aside0.mk hbox; have HB2 := Aside0.mk (below_step HB.out hb); have GE := Aside0.mk ((by rw [hg]; exact HB.out.size) : w.heap.size ≤ gb); have hc0 := (blk_cell BK.out 0).trans (show _ = some (.slice none 0 0) from rfl); have hc1 := (blk_cell BK.out 1).trans (show _ = some (.int .i64 0) from rfl); have hf0 := blk_frozen BK.out 0; have hf1 := blk_frozen BK.out 1; have hcut1 := hcut.out; have hy1 := pw_cell_below HB2.out hx1; have hy2 := pw_cell_below HB2.out hx2; clear hbox hb; clear hg))
  repeat (go_quiet (fail))
  go_wp2
  refine bodyPost_ret (results_ct rfl _ _ gb 96 #[.slice A1 (l0.length - 1) (c0 - 1), .int .i64 (8 * ((l0.length : Int) - 1) - rd l0 0)] (0, 0) _ rfl (by (with_reducible repeat (first | refine blk_drewN ?_ _ | refine blk_drew ?_ | refine blk_alloc ?_ _)); refine blk_put (cs := #[.slice none 0 0, .int .i64 (8 * ((l0.length : Int) - 1) - rd l0 0)]) ?_ 0 _ rfl; (with_reducible repeat (first | refine blk_drewN ?_ _ | refine blk_drew ?_ | refine blk_alloc ?_ _)); (try rw [HE.out]); refine blk_put (cs := #[.slice none 0 0, .int .i64 0]) ?_ 1 _ rfl; (with_reducible repeat (first | refine blk_drewN ?_ _ | refine blk_drew ?_ | refine blk_alloc ?_ _)); exact BK.out) Try.underlying96 rfl (by kernel_rfl)) rfl ?_
  exact ⟨by have h_ := HA.out; subst h_; rfl, by repeat (first | (with_reducible first | exact HB2.out | apply below_alloc | apply pw_below_drewN | apply below_drew1 | refine below_set ?_ GE.out) | exact HB2.out)⟩

set_option maxHeartbeats 8000000 in
set_option maxRecDepth 100000 in
theorem parseBits_badMoreN (A0 : Option Addr) (c0 : Nat) (l0 : List Int) (w : World) (hr0 : Kd.C (Kd.int .u8) w A0 l0.length l0) (hbb : 0 ≤ rd l0 0 ∧ rd l0 0 ≤ 255) (hl : l0.length ≤ 10000) (h0 : 0 < l0.length) (h7 : rd l0 0 ≤ 7) (h1 : l0.length ≠ 1) (h2 : rd l0 0 ≤ 0) (hz : bitsRest l0 ≠ 0) : Calls Try.prog 89 #[.slice A0 l0.length c0] w (BitsBad w) := by
  have hu1 := Try.underlying96
  have hu2 := Try.underlying135
  obtain ⟨A1, hA1, hcut0⟩ : ∃ A1, A1 = (if c0 = 1 then A0 else A0.map (·.add 1)) ∧ ∀ W : World, (Instr.slice 25 (.slice A0 l0.length c0) (some (.int .i64 1)) none none).run Try.prog W = .ok (.slice A1 (l0.length - 1) (c0 - 1)) W := ⟨_, rfl, cut_one_ A0 l0.length c0 (by omega)⟩
  have HA := Aside0.mk hA1
  have hcut := Aside0.mk hcut0
  clear hA1 hcut0
  have HB := Aside0.mk (Below.refl w.heap.size w)
  have z1 : ((l0.length : Int) == 0) = false := by simp; intro h; rw [h] at h0; simp at h0
  have z2 : ((l0.length : Int) == 1) = false := by simp; omega
  have z4 : decide (0 < (l0.length : Int)) = true := decide_eq_true (by omega)
  have z5 : wrap64 (rd l0 0) = rd l0 0 := by unfold wrap64; omega
  have z6 : decide (7 < rd l0 0) = false := decide_eq_false (by omega)
  have z7 : decide (0 < rd l0 0) = false := decide_eq_false (by omega)
  obtain ⟨ji, hji⟩ : ∃ j_ : Int, (wrap64 ((l0.length : Int) - 1)) = j_ := ⟨_, rfl⟩
  have hji0 : ji = (l0.length : Int) - 1 := by rw [← hji]; unfold wrap64; omega
  have hjiw : (IntKind.i64.wrap ((l0.length : Int) - 1)) = ji := (i64_w _).trans hji
  have p2 : 0 ≤ ji := by omega
  have q2 : ji < (l0.length : Int) := by omega
  have HE := Aside0.mk (show wrap64 (wrap64 (ji * 8) - rd l0 0) = 8 * ((l0.length : Int) - 1) - rd l0 0 by unfold wrap64; omega)
  unfold bitsRest at hz
  rw [hji] at hz
  obtain ⟨sh, hsh⟩ : ∃ j_ : Int, (shl .u8 1 (rd l0 0)) = j_ := ⟨_, rfl⟩
  rw [hsh] at hz
  have hsh_ : (IntKind.u8.wrap (1 * 2 ^ min (rd l0 0).toNat 8)) = sh := hsh
  have hshz : (IntKind.u8.wrap (1 * 2 ^ (rd l0 0).toNat)) = sh := shl_small hsh (show rd l0 0 ≤ 8 by omega)
  have hshu : (IntKind.u8.wrap (2 ^ min (rd l0 0).toNat 8)) = sh := by have h_ := hsh_; rw [Int.one_mul] at h_; exact h_
  have hshv : (IntKind.u8.wrap (2 ^ (rd l0 0).toNat)) = sh := by have h_ := hshz; rw [Int.one_mul] at h_; exact h_
  have zp : decide (0 ≤ rd l0 0) = true := decide_eq_true hbb.1
  have zz1 : ((Go.bits .and .u8 (rd l0 (ji)) (((sh) - 1) % 256)) == 0) = false := beq_eq_false_iff_ne.mpr hz
  have zz2 : ((Go.bits .and .u8 (rd l0 (ji)) (((sh) - 1) % 256)) != 0) = true := bne_iff_ne.mpr hz
  obtain ⟨ad, e1, hx1⟩ := Kd.at_int hr0 0 (by omega) (by omega)
  obtain ⟨ad2, e2, hx2⟩ := Kd.at_int hr0 ji p2 q2
  subst e1
  obtain rfl : ad = ad2 := by injection e2
  have qi : (0 < l0.length) = True := eq_true h0
  (try rw [show ((0 : Int)).toNat = 0 from rfl] at hx1)
  (try rw [Addr.add_zero'] at hx1)
  replace p2 := eq_true p2
  replace q2 := eq_true q2
  have hb1 := eq_true hbb.1
  clear h2 hji0 h1 hl h0 hr0 hbb h7 hz e2 hsh
  go_enter Try.func89, Try.ntmps89
  go_wp2_with (first | ((with_reducible refine gate_dst (N := 2) rfl ?_); (try (refine gate_guard (by rfl) ?_; dsimp only)); refine box_event ?hg (N := 2) ?hd (cs := #[.slice none 0 0, .int .i64 0]) (t := 96) ?hr ?_; (case hd => rfl); (case hg => rfl); (case hr => first | (go_simp; done) | (go_simp; rfl)); intro gb hg w3 hbox hb; have BK := Aside0.mk hbox; have HB2 := Aside0.mk (below_step HB.out hb); have GE := Aside0.mk ((by rw [hg]; exact HB.out.size) : w.heap.size ≤ gb); have hc0 := (blk_cell BK.out 0).trans (show _ = some (.slice none 0 0) from rfl); have hc1 := (blk_cell BK.out 1).trans (show _ = some (.int .i64 0) from rfl); have hf0 := blk_frozen BK.out 0; have hf1 := blk_frozen BK.out 1; have hy1 := pw_cell_below HB2.out hx1; have hy2 := pw_cell_below HB2.out hx2; clear hbox hb; clear hg))
  repeat (go_quiet (fail))
  go_wp2
  refine bodyPost_ret (results_ct rfl _ _ gb 96 #[.slice none 0 0, .int .i64 0] (0, 0) _ rfl (by (with_reducible repeat (first | refine blk_drewN ?_ _ | refine blk_drew ?_ | refine blk_alloc ?_ _)); exact BK.out) Try.underlying96 rfl (by kernel_rfl)) rfl ?_
  exact ⟨_, _, rfl, by repeat (first | (with_reducible first | exact HB2.out | apply below_alloc | apply pw_below_drewN | apply below_drew1 | refine below_set ?_ GE.out) | exact HB2.out)⟩

set_option maxHeartbeats 8000000 in
set_option maxRecDepth 100000 in
theorem parseBits_goodMoreN (A0 : Option Addr) (c0 : Nat) (l0 : List Int) (w : World) (hr0 : Kd.C (Kd.int .u8) w A0 l0.length l0) (hbb : 0 ≤ rd l0 0 ∧ rd l0 0 ≤ 255) (hl : l0.length ≤ 10000) (h0 : 0 < l0.length) (h7 : rd l0 0 ≤ 7) (h1 : l0.length ≠ 1) (h2 : rd l0 0 ≤ 0) (hz : bitsRest l0 = 0) : Calls Try.prog 89 #[.slice A0 l0.length c0] w (BitsGood w A0 c0 l0) := by
  have hu1 := Try.underlying96
  have hu2 := Try.underlying135
  obtain ⟨A1, hA1, hcut0⟩ : ∃ A1, A1 = (if c0 = 1 then A0 else A0.map (·.add 1)) ∧ ∀ W : World, (Instr.slice 25 (.slice A0 l0.length c0) (some (.int .i64 1)) none none).run Try.prog W = .ok (.slice A1 (l0.length - 1) (c0 - 1)) W := ⟨_, rfl, cut_one_ A0 l0.length c0 (by omega)⟩
  have HA := Aside0.mk hA1
  have hcut := Aside0.mk hcut0
  clear hA1 hcut0
  have HB := Aside0.mk (Below.refl w.heap.size w)
  have z1 : ((l0.length : Int) == 0) = false := by simp; intro h; rw [h] at h0; simp at h0
  have z2 : ((l0.length : Int) == 1) = false := by simp; omega
  have z4 : decide (0 < (l0.length : Int)) = true := decide_eq_true (by omega)
  have z5 : wrap64 (rd l0 0) = rd l0 0 := by unfold wrap64; omega
  have z6 : decide (7 < rd l0 0) = false := decide_eq_false (by omega)
  have z7 : decide (0 < rd l0 0) = false := decide_eq_false (by omega)
  obtain ⟨ji, hji⟩ : ∃ j_ : Int, (wrap64 ((l0.length : Int) - 1)) = j_ := ⟨_, rfl⟩
  have hji0 : ji = (l0.length : Int) - 1 := by rw [← hji]; unfold wrap64; omega
  have hjiw : (IntKind.i64.wrap ((l0.length : Int) - 1)) = ji := (i64_w _).trans hji
  have p2 : 0 ≤ ji := by omega
  have q2 : ji < (l0.length : Int) := by omega
  have HE := Aside0.mk (show wrap64 (wrap64 (ji * 8) - rd l0 0) = 8 * ((l0.length : Int) - 1) - rd l0 0 by unfold wrap64; omega)
  unfold bitsRest at hz
  rw [hji] at hz
  obtain ⟨sh, hsh⟩ : ∃ j_ : Int, (shl .u8 1 (rd l0 0)) = j_ := ⟨_, rfl⟩
  rw [hsh] at hz
  have hsh_ : (IntKind.u8.wrap (1 * 2 ^ min (rd l0 0).toNat 8)) = sh := hsh
  have hshz : (IntKind.u8.wrap (1 * 2 ^ (rd l0 0).toNat)) = sh := shl_small hsh (show rd l0 0 ≤ 8 by omega)
  have hshu : (IntKind.u8.wrap (2 ^ min (rd l0 0).toNat 8)) = sh := by have h_ := hsh_; rw [Int.one_mul] at h_; exact h_
  have hshv : (IntKind.u8.wrap (2 ^ (rd l0 0).toNat)) = sh := by have h_ := hshz; rw [Int.one_mul] at h_; exact h_
  have zp : decide (0 ≤ rd l0 0) = true := decide_eq_true hbb.1
  have zz1 : ((Go.bits .and .u8 (rd l0 (ji)) (((sh) - 1) % 256)) == 0) = true := beq_iff_eq.mpr hz
  have zz2 : ((Go.bits .and .u8 (rd l0 (ji)) (((sh) - 1) % 256)) != 0) = false := bne_eq_false_iff_eq.mpr hz
  obtain ⟨ad, e1, hx1⟩ := Kd.at_int hr0 0 (by omega) (by omega)
  obtain ⟨ad2, e2, hx2⟩ := Kd.at_int hr0 ji p2 q2
  subst e1
  obtain rfl : ad = ad2 := by injection e2
  have qi : (0 < l0.length) = True := eq_true h0
  (try rw [show ((0 : Int)).toNat = 0 from rfl] at hx1)
  (try rw [Addr.add_zero'] at hx1)
  replace p2 := eq_true p2
  replace q2 := eq_true q2
  have hb1 := eq_true hbb.1
  clear h2 hji0 h1 hl h0 hr0 hbb h7 hz e2 hsh
  go_enter Try.func89, Try.ntmps89
  go_wp2_with (first | ((with_reducible refine gate_dst (N := 2) rfl ?_); (try (refine gate_guard (by rfl) ?_; dsimp only)); refine box_event ?hg (N := 2) ?hd (cs := #[.slice none 0 0, .int .i64 0]) (t := 96) ?hr ?_; (case hd => rfl); (case hg => rfl); (case hr => first | (go_simp; done) | (go_simp; rfl)); intro gb hg w3 hbox hb; have BK := Aside0.mk hbox; have HB2 := Aside0.mk (below_step HB.out hb); have GE := Aside0.mk ((by rw [hg]; exact HB.out.size) : w.heap.size ≤ gb); have hc0 := (blk_cell BK.out 0).trans (show _ = some (.slice none 0 0) from rfl); have hc1 := (blk_cell BK.out 1).trans (show _ = some (.int .i64 0) from rfl); have hf0 := blk_frozen BK.out 0; have hf1 := blk_frozen BK.out 1; have hcut1 := hcut.out; have hy1 := pw_cell_below HB2.out hx1; have hy2 := pw_cell_below HB2.out hx2; clear hbox hb; clear hg))
  repeat (go_quiet (fail))
  go_wp2
  refine bodyPost_ret (results_ct rfl _ _ gb 96 #[.slice A1 (l0.length - 1) (c0 - 1), .int .i64 (8 * ((l0.length : Int) - 1) - rd l0 0)] (0, 0) _ rfl (by (with_reducible repeat (first | refine blk_drewN ?_ _ | refine blk_drew ?_ | refine blk_alloc ?_ _)); refine blk_put (cs := #[.slice none 0 0, .int .i64 (8 * ((l0.length : Int) - 1) - rd l0 0)]) ?_ 0 _ rfl; (with_reducible repeat (first | refine blk_drewN ?_ _ | refine blk_drew ?_ | refine blk_alloc ?_ _)); (try rw [HE.out]); refine blk_put (cs := #[.slice none 0 0, .int .i64 0]) ?_ 1 _ rfl; (with_reducible repeat (first | refine blk_drewN ?_ _ | refine blk_drew ?_ | refine blk_alloc ?_ _)); exact BK.out) Try.underlying96 rfl (by kernel_rfl)) rfl ?_
  exact ⟨by have h_ := HA.out; subst h_; rfl, by repeat (first | (with_reducible first | exact HB2.out | apply below_alloc | apply pw_below_drewN | apply below_drew1 | refine below_set ?_ GE.out) | exact HB2.out)⟩

set_option maxHeartbeats 8000000 in
set_option maxRecDepth 100000 in
theorem parseBits_seven (A0 : Option Addr) (c0 : Nat) (l0 : List Int) (w : World) (hr0 : Kd.C (Kd.int .u8) w A0 l0.length l0) (hbb : 0 ≤ rd l0 0 ∧ rd l0 0 ≤ 255) (hl : l0.length ≤ 10000) (h0 : 0 < l0.length) (h7 : 7 < rd l0 0) : Calls Try.prog 89 #[.slice A0 l0.length c0] w (BitsBad w) := by
  have hu1 := Try.underlying96
  have hu2 := Try.underlying135
  obtain ⟨A1, hA1, hcut0⟩ : ∃ A1, A1 = (if c0 = 1 then A0 else A0.map (·.add 1)) ∧ ∀ W : World, (Instr.slice 25 (.slice A0 l0.length c0) (some (.int .i64 1)) none none).run Try.prog W = .ok (.slice A1 (l0.length - 1) (c0 - 1)) W := ⟨_, rfl, cut_one_ A0 l0.length c0 (by omega)⟩
  have HA := Aside0.mk hA1
  have hcut := Aside0.mk hcut0
  clear hA1 hcut0
  have HB := Aside0.mk (Below.refl w.heap.size w)
  have z1 : ((l0.length : Int) == 0) = false := by simp; intro h; rw [h] at h0; simp at h0
  have z4 : decide (0 < (l0.length : Int)) = true := decide_eq_true (by omega)
  have z5 : wrap64 (rd l0 0) = rd l0 0 := by unfold wrap64; omega
  have z6 : decide (7 < rd l0 0) = true := decide_eq_true (by omega)
  have z7 : decide (0 < rd l0 0) = true := decide_eq_true (by omega)
  obtain ⟨ad, e1, hx1⟩ := Kd.at_int hr0 0 (by omega) (by omega)
  subst e1
  have qi : (0 < l0.length) = True := eq_true h0
  (try rw [show ((0 : Int)).toNat = 0 from rfl] at hx1)
  (try rw [Addr.add_zero'] at hx1)
  have hb1 := eq_true hbb.1
  clear hl h0 hr0 hbb h7
  go_enter Try.func89, Try.ntmps89
  go_wp2_with (first | ((with_reducible refine gate_dst (N := 2) rfl ?_); (try (refine gate_guard (by rfl) ?_; dsimp only)); refine box_event ?hg (N := 2) ?hd (cs := #[.slice none 0 0, .int .i64 0]) (t := 96) ?hr ?_; (case hd => rfl); (case hg => rfl); (case hr => first | (go_simp; done) | (go_simp; rfl)); intro gb hg w3 hbox hb; have BK := Aside0.mk hbox; have HB2 := Aside0.mk (below_step HB.out hb); have GE := Aside0.mk ((by rw [hg]; exact HB.out.size) : w.heap.size ≤ gb); have hc0 := (blk_cell BK.out 0).trans (show _ = some (.slice none 0 0) from rfl); have hc1 := (blk_cell BK.out 1).trans (show _ = some (.int .i64 0) from rfl); have hf0 := blk_frozen BK.out 0; have hf1 := blk_frozen BK.out 1; have hy1 := pw_cell_below HB2.out hx1; clear hbox hb; clear hg))
  repeat (go_quiet (fail))
  go_wp2
  refine bodyPost_ret (results_ct rfl _ _ gb 96 #[.slice none 0 0, .int .i64 0] (0, 0) _ rfl (by (with_reducible repeat (first | refine blk_drewN ?_ _ | refine blk_drew ?_ | refine blk_alloc ?_ _)); exact BK.out) Try.underlying96 rfl (by kernel_rfl)) rfl ?_
  exact ⟨_, _, rfl, by repeat (first | (with_reducible first | exact HB2.out | apply below_alloc | apply pw_below_drewN | apply below_drew1 | refine below_set ?_ GE.out) | exact HB2.out)⟩

theorem parseBits_bad (A0 : Option Addr) (c0 : Nat) (l0 : List Int) (w : World) (hr0 : Kd.C (Kd.int .u8) w A0 l0.length l0) (hbb : 0 ≤ rd l0 0 ∧ rd l0 0 ≤ 255) (hl : l0.length ≤ 10000) (h : ¬ isBits l0) : Calls Try.prog 89 #[.slice A0 l0.length c0] w (BitsBad w) := by
  by_cases h0 : l0.length = 0
  · rw [h0]; exact parseBits_empty A0 c0 w
  have h0' : 0 < l0.length := by omega
  by_cases h7 : 7 < rd l0 0
  · exact parseBits_seven A0 c0 l0 w hr0 hbb hl h0' h7
  have h7' : rd l0 0 ≤ 7 := by omega
  by_cases h1 : l0.length = 1
  · by_cases h2 : 0 < rd l0 0
    · exact parseBits_onePos A0 c0 l0 w hr0 hbb hl h0' h7' h1 h2
    · by_cases hz : bitsRest l0 = 0
      · exact absurd ⟨h0', h7', fun _ => by omega, hz⟩ h
      · exact parseBits_badOne A0 c0 l0 w hr0 hbb hl h0' h7' h1 (by omega) hz
  · by_cases hz : bitsRest l0 = 0
    · exact absurd ⟨h0', h7', fun h => absurd h h1, hz⟩ h
    · by_cases h2 : 0 < rd l0 0
      · exact parseBits_badMoreP A0 c0 l0 w hr0 hbb hl h0' h7' h1 h2 hz
      · exact parseBits_badMoreN A0 c0 l0 w hr0 hbb hl h0' h7' h1 (by omega) hz
theorem parseBits_good (A0 : Option Addr) (c0 : Nat) (l0 : List Int) (w : World) (hr0 : Kd.C (Kd.int .u8) w A0 l0.length l0) (hbb : 0 ≤ rd l0 0 ∧ rd l0 0 ≤ 255) (hl : l0.length ≤ 10000) (h : isBits l0) : Calls Try.prog 89 #[.slice A0 l0.length c0] w (BitsGood w A0 c0 l0) := by
  obtain ⟨h0, h7, hp, hz⟩ := h
  by_cases h1 : l0.length = 1
  · exact parseBits_goodOne A0 c0 l0 w hr0 hbb hl h0 h7 h1 (by have := hp h1; omega) hz
  · by_cases h2 : 0 < rd l0 0
    · exact parseBits_goodMoreP A0 c0 l0 w hr0 hbb hl h0 h7 h1 h2 hz
    · exact parseBits_goodMoreN A0 c0 l0 w hr0 hbb hl h0 h7 h1 (by omega) hz
set_option maxHeartbeats 4000000 in
theorem ZZBits_bad (A0 : Option Addr) (c0 : Nat) (l0 : List Int) (w : World) (hr0 : Kd.C (Kd.int .u8) w A0 l0.length l0) (hbb : 0 ≤ rd l0 0 ∧ rd l0 0 ≤ 255) (hl : l0.length ≤ 10000) (h : ¬ isBits l0) : Calls Try.prog 66 #[.slice A0 l0.length c0] w (BitsBad w) := by
  have hu1 := Try.underlying96
  have HR0 := Aside0.mk hr0
  have HX := Aside0.mk hbb
  have HL := Aside0.mk hl
  have HN := Aside0.mk h
  have HB := Aside0.mk (Below.refl w.heap.size w)
  clear hr0 hbb hl h
  go_enter Try.func66, Try.ntmps66
  go_wp2_with (first | ((with_reducible refine gate_dst (N := 2) rfl ?_); refine box_event ?hg (N := 2) ?hd (cs := #[.slice none 0 0, .int .i64 0]) (t := 96) ?hr ?_; (case hd => rfl); (case hg => rfl); (case hr => first | (go_simp; done) | (go_simp; rfl)); intro gb hg w3 hbox hb; have BK := Aside0.mk hbox; have HB2 := Aside0.mk (below_step HB.out hb); have GE := Aside0.mk ((by rw [hg]; exact HB.out.size) : w.heap.size ≤ gb); clear hbox hb; clear hg) | (go_at_call 89; (with_reducible refine (parseBits_bad _ _ l0 _ (Kd.C_below HR0.out HB2.out) HX.out HL.out HN.out).mono ?_); rintro e w4 ⟨T, x, rfl, hb⟩; have HB3 := Aside0.mk (below_step HB2.out hb); have BK3 := Aside0.mk (blk_below BK.out hb); have hc0 := (blk_cell BK3.out 0).trans (show _ = some (.slice none 0 0) from rfl); have hc1 := (blk_cell BK3.out 1).trans (show _ = some (.int .i64 0) from rfl); have hf0 := blk_frozen BK3.out 0; have hf1 := blk_frozen BK3.out 1; clear hb))
  refine bodyPost_ret (results_ct rfl _ _ gb 96 #[.slice none 0 0, .int .i64 0] (0, 0) _ rfl (by repeat (first | exact BK3.out | refine blk_put (cs := #[.slice none 0 0, .int .i64 0]) ?_ _ _ rfl)) Try.underlying96 rfl (by kernel_rfl)) rfl ?_
  exact ⟨T, x, by first | rfl | (simp; rfl), by repeat (first | (with_reducible first | exact HB3.out | apply below_alloc | apply pw_below_drewN | apply below_drew1 | refine below_set ?_ GE.out) | exact HB3.out)⟩
set_option maxHeartbeats 4000000 in
theorem ZZBits_good (A0 : Option Addr) (c0 : Nat) (l0 : List Int) (w : World) (hr0 : Kd.C (Kd.int .u8) w A0 l0.length l0) (hbb : 0 ≤ rd l0 0 ∧ rd l0 0 ≤ 255) (hl : l0.length ≤ 10000) (h : isBits l0) : Calls Try.prog 66 #[.slice A0 l0.length c0] w (BitsGood w A0 c0 l0) := by
  have hu1 := Try.underlying96
  have HR0 := Aside0.mk hr0
  have HX := Aside0.mk hbb
  have HL := Aside0.mk hl
  have HN := Aside0.mk h
  have HB := Aside0.mk (Below.refl w.heap.size w)
  obtain ⟨A1, hA1⟩ : ∃ A1, A1 = (if c0 = 1 then A0 else A0.map (·.add 1)) := ⟨_, rfl⟩
  have HA := Aside0.mk hA1
  obtain ⟨k1, hk1⟩ : ∃ k1 : Int, k1 = 8 * ((l0.length : Int) - 1) - rd l0 0 := ⟨_, rfl⟩
  have HK := Aside0.mk hk1
  clear hr0 hbb hl h hA1 hk1
  go_enter Try.func66, Try.ntmps66
  go_wp2_with (first | ((with_reducible refine gate_dst (N := 2) rfl ?_); refine box_event ?hg (N := 2) ?hd (cs := #[.slice none 0 0, .int .i64 0]) (t := 96) ?hr ?_; (case hd => rfl); (case hg => rfl); (case hr => first | (go_simp; done) | (go_simp; rfl)); intro gb hg w3 hbox hb; have BK := Aside0.mk hbox; have HB2 := Aside0.mk (below_step HB.out hb); have GE := Aside0.mk ((by rw [hg]; exact HB.out.size) : w.heap.size ≤ gb); clear hbox hb; clear hg) | (go_at_call 89; (with_reducible refine (parseBits_good _ _ l0 _ (Kd.C_below HR0.out HB2.out) HX.out HL.out HN.out).mono ?_); rintro e w4 ⟨he, hb⟩; rw [← HA.out, ← HK.out] at he; subst he; have HB3 := Aside0.mk (below_step HB2.out hb); have BK3 := Aside0.mk (blk_below BK.out hb); have hc0 := (blk_cell BK3.out 0).trans (show _ = some (.slice none 0 0) from rfl); have hc1 := (blk_cell BK3.out 1).trans (show _ = some (.int .i64 0) from rfl); have hf0 := blk_frozen BK3.out 0; have hf1 := blk_frozen BK3.out 1; clear hb))
  refine bodyPost_ret (results_ct rfl _ _ gb 96 #[.slice A1 (l0.length - 1) (c0 - 1), .int .i64 k1] (0, 0) _ rfl (by refine blk_put (cs := #[.slice A1 (l0.length - 1) (c0 - 1), .int .i64 0]) ?_ _ _ rfl; refine blk_put (cs := #[.slice none 0 0, .int .i64 0]) ?_ _ _ rfl; exact BK3.out) Try.underlying96 rfl (by kernel_rfl)) rfl ?_
  exact ⟨by rw [← HA.out, ← HK.out]; rfl, by repeat (first | (with_reducible first | exact HB3.out | apply below_alloc | apply pw_below_drewN | apply below_drew1 | refine below_set ?_ GE.out) | exact HB3.out)⟩
def RBBad (w : World) (e : Ending) (w' : World) : Prop := e = .returned (.tuple #[.slice none 0 0, .int .i64 0, .bool false]) ∧ Below w.heap.size w w'
def RBGood (w : World) (l : List Int) (e : Ending) (w' : World) : Prop := ∃ v0_ : Value, e = .returned (.tuple #[v0_, .int .i64 (8 * ((l.length : Int) - 1) - rd l 0), .bool true]) ∧ Kd.Q (Kd.int .u8) 5 w' w.heap.size (fun _ => True) v0_ (l.drop 1) ∧ Below w.heap.size w w'
set_option maxHeartbeats 4000000 in
theorem ReadBits_bad (A0 : Option Addr) (c0 : Nat) (l0 : List Int) (w : World) (hr0 : Kd.C (Kd.int .u8) w A0 l0.length l0) (hc0 : l0.length ≤ c0) (hbb : 0 ≤ rd l0 0 ∧ rd l0 0 ≤ 255) (hl : l0.length ≤ 10000) (h : ¬ isBits l0) : Calls Try.prog 36 #[.slice A0 l0.length c0] w (RBBad w) := by
  have hu1 := Try.underlying96
  have HR0 := Aside0.mk hr0
  have HC0 := Aside0.mk hc0
  have HX := Aside0.mk hbb
  have HL := Aside0.mk hl
  have HN := Aside0.mk h
  have HS := Aside0.mk (show impl_short.f l0 = some true by simp [impl_short.f]; omega)
  have HP := Aside0.mk (show impl_copied.f l0 = some l0 by simp [impl_copied.f]; omega)
  have HB := Aside0.mk (Below.refl w.heap.size w)
  clear hr0 hc0 hbb hl h
  go_enter Try.func36, Try.ntmps36
  go_wp2_with (first | (go_at_call 48; (with_reducible refine (impl_short.calls _ _ l0 true _ HR0.out HC0.out HS.out).mono ?_); rintro e w6 ⟨rfl, hd⟩; have HB4 := Aside0.mk (below_step HB.out hd.below); clear hd) | (go_at_call 44; (with_reducible refine (impl_copied.calls _ _ l0 l0 _ (Kd.C_below HR0.out HB4.out) HC0.out HP.out).mono ?_); rintro e w7 ⟨v0, rfl, ho, hb⟩; have HB5 := Aside0.mk (below_step HB4.out hb); obtain ⟨A5, c5, e5⟩ := Kd.R_slice ho; subst e5; have HO5 := Aside0.mk (Kd.R_reads' ho).2.2; clear hb ho) | (go_at_call 66; (with_reducible refine (ZZBits_bad _ _ l0 _ HO5.out HX.out HL.out HN.out).mono ?_); rintro e w8 ⟨T, x, rfl, hb⟩; have HB6 := Aside0.mk (below_step HB5.out hb); clear hb) | ((with_reducible refine gate_dst (N := 5) rfl ?_); refine box_event ?hg (N := 5) ?hd (cs := #[.slice none 0 0, .int .i64 0]) (t := 96) ?hr ?_; (case hd => rfl); (case hg => rfl); (case hr => first | (go_simp; done) | (go_simp; rfl)); intro gb hg w9 hbox hb; have BK := Aside0.mk hbox; have HB7 := Aside0.mk (below_step HB6.out hb); have GE := Aside0.mk ((by rw [hg]; exact HB6.out.size) : w.heap.size ≤ gb); have hc0 := (blk_cell BK.out 0).trans (show _ = some (.slice none 0 0) from rfl); have hc1 := (blk_cell BK.out 1).trans (show _ = some (.int .i64 0) from rfl); have hf0 := blk_frozen BK.out 0; have hf1 := blk_frozen BK.out 1; clear hbox hb; clear hg))
  go_ret3
  exact ⟨by first | rfl | (simp; rfl), by repeat (first | (with_reducible first | exact HB7.out | apply below_alloc | apply pw_below_drewN | apply below_drew1 | refine below_set ?_ GE.out) | exact HB7.out)⟩
set_option maxHeartbeats 4000000 in
theorem ReadBits_good (A0 : Option Addr) (c0 : Nat) (l0 : List Int) (w : World) (hr0 : Kd.C (Kd.int .u8) w A0 l0.length l0) (hc0 : l0.length ≤ c0) (hbb : 0 ≤ rd l0 0 ∧ rd l0 0 ≤ 255) (hl : l0.length ≤ 10000) (h : isBits l0) : Calls Try.prog 36 #[.slice A0 l0.length c0] w (RBGood w l0) := by
  have hu1 := Try.underlying96
  have HR0 := Aside0.mk hr0
  have HC0 := Aside0.mk hc0
  have HX := Aside0.mk hbb
  have HL := Aside0.mk hl
  have HN := Aside0.mk h
  have HS := Aside0.mk (show impl_short.f l0 = some true by simp [impl_short.f]; omega)
  have HP := Aside0.mk (show impl_copied.f l0 = some l0 by simp [impl_copied.f]; omega)
  have HB := Aside0.mk (Below.refl w.heap.size w)
  obtain ⟨k1, hk1⟩ : ∃ k1 : Int, k1 = 8 * ((l0.length : Int) - 1) - rd l0 0 := ⟨_, rfl⟩
  have HK := Aside0.mk hk1
  clear hr0 hc0 hbb hl h hk1
  go_enter Try.func36, Try.ntmps36
  go_wp2_with (first | (go_at_call 48; (with_reducible refine (impl_short.calls _ _ l0 true _ HR0.out HC0.out HS.out).mono ?_); rintro e w6 ⟨rfl, hd⟩; have HB4 := Aside0.mk (below_step HB.out hd.below); clear hd) | (go_at_call 44; (with_reducible refine (impl_copied.calls _ _ l0 l0 _ (Kd.C_below HR0.out HB4.out) HC0.out HP.out).mono ?_); rintro e w7 ⟨v0, rfl, ho, hb⟩; have HB5 := Aside0.mk (below_step HB4.out hb); obtain ⟨A5, c5, e5⟩ := Kd.R_slice ho; subst e5; have HO5 := Aside0.mk (Kd.R_reads' ho).2.2; have HQ5 := Aside0.mk (Kd.Q_lower (Kd.Q_drop (k := 1) (Kd.Q_of_R ho) HN.out.1) HB4.out.size); obtain ⟨A1, hA1⟩ : ∃ A1, A1 = (if c5 = 1 then A5 else A5.map (·.add 1)) := ⟨_, rfl⟩; have HA := Aside0.mk hA1; clear hb ho hA1) | (go_at_call 66; (with_reducible refine (ZZBits_good _ _ l0 _ HO5.out HX.out HL.out HN.out).mono ?_); rintro e w8 ⟨he, hb⟩; rw [← HA.out, ← HK.out] at he; subst he; have HB6 := Aside0.mk (below_step HB5.out hb); have HQ6 := Aside0.mk (Kd.Q_below HQ5.out hb); clear hb) | ((with_reducible refine gate_dst (N := 5) rfl ?_); refine box_event ?hg (N := 5) ?hd (cs := #[.slice none 0 0, .int .i64 0]) (t := 96) ?hr ?_; (case hd => rfl); (case hg => rfl); (case hr => first | (go_simp; done) | (go_simp; rfl)); intro gb hg w9 hbox hb; have BK := Aside0.mk hbox; have HB7 := Aside0.mk (below_step HB6.out hb); have HQ7 := Aside0.mk (Kd.Q_below HQ6.out hb); have GE := Aside0.mk ((by rw [hg]; exact HB6.out.size) : w.heap.size ≤ gb); have hc0 := (blk_cell BK.out 0).trans (show _ = some (.slice none 0 0) from rfl); have hc1 := (blk_cell BK.out 1).trans (show _ = some (.int .i64 0) from rfl); have hf0 := blk_frozen BK.out 0; have hf1 := blk_frozen BK.out 1; clear hbox hb; clear hg))
  repeat (go_quiet (fail))
  go_wp2
  go_ret3
  refine ⟨_, by rw [← HK.out]; rfl, ?_, by repeat (first | (with_reducible first | exact HB7.out | apply below_alloc | apply pw_below_drewN | apply below_drew1 | refine below_set ?_ GE.out) | exact HB7.out)⟩
  (with_reducible repeat (first | apply Kd.Q_alloc | apply Kd.Q_drewN | apply Kd.Q_drew))
  refine Kd.Q_set (t := 96) (cells := #[.slice A1 (l0.length - 1) (c5 - 1), .int .i64 0]) ?_ (blk_put BK.out 0 _ rfl) (by decide) 1 _
  refine Kd.Q_set (t := 96) (cells := #[.slice none 0 0, .int .i64 0]) ?_ BK.out (by decide) 0 _
  have h_ := HQ7.out
  rw [show (1 * (Kd.int .u8).sz) = 1 from rfl, ← HA.out] at h_
  exact h_

instance (l : List Int) : Decidable (isBits l) := by unfold isBits; infer_instance
def impl_ReadBits.f (l0 : List Int) : Option (List Int × Int × Bool) := if l0.length ≤ 10000 ∧ (0 ≤ rd l0 0 ∧ rd l0 0 ≤ 255) then (if isBits l0 then some (l0.drop 1, 8 * ((l0.length : Int) - 1) - rd l0 0, true) else some ([], 0, false)) else none
theorem impl_ReadBits.calls (A0 : Option Addr) (c0 : Nat) (l0 : List Int) (r1 : List Int) (r2 : Int) (r3 : Bool) (w : World) (hr0 : Kd.C (Kd.int .u8) w A0 l0.length l0) (hc0 : l0.length ≤ c0) (h : impl_ReadBits.f l0 = some (r1, r2, r3)) :
    Calls Try.prog 36 #[.slice A0 l0.length c0] w fun e w' => ∃ v0_ : Value, e = .returned (.tuple #[v0_, .int .i64 r2, .bool r3]) ∧ Kd.Q (Kd.int .u8) 5 w' w.heap.size (fun _ => True) v0_ r1 ∧ Below w.heap.size w w' := by
  unfold impl_ReadBits.f at h
  by_cases c : l0.length ≤ 10000 ∧ (0 ≤ rd l0 0 ∧ rd l0 0 ≤ 255)
  · rw [if_pos c] at h
    by_cases b : isBits l0
    · rw [if_pos b] at h
      simp only [Option.some.injEq, Prod.mk.injEq] at h
      obtain ⟨rfl, rfl, rfl⟩ := h
      exact ReadBits_good A0 c0 l0 w hr0 hc0 c.2 c.1 b
    · rw [if_neg b] at h
      simp only [Option.some.injEq, Prod.mk.injEq] at h
      obtain ⟨rfl, rfl, rfl⟩ := h
      exact (ReadBits_bad A0 c0 l0 w hr0 hc0 c.2 c.1 b).mono fun e w' ⟨he, hb⟩ => ⟨_, he, Kd.Q_nil _ _ _ _ _, hb⟩
  · rw [if_neg c] at h
    cases h

end Go.Proofs.Ytmiemfgcggkbnaa.QB
