/- bytesEncoder written; a copy into an own row. -/
import Derived.Test.YtmiemfgcggkbnaaSoB
namespace Go.Proofs.Ytmiemfgcggkbnaa.QS
set_option linter.unusedVariables false
set_option linter.unusedSimpArgs false
open Go.RowKit Go.Proofs.YtmiemfgcggkbnaaW.PrintWords Go.Proofs.YtmiemfgcggkbnaaW.PrintLast Go.Proofs.YtmiemfgcggkbnaaW.PrintMore
theorem splice_take {α : Type} (C Y : List α) (off N q m : Nat) (hy : Y.length = m) (hq : q = off + m) (hN : q ≤ N) (hC : N ≤ C.length) : (C.take off ++ Y ++ C.drop (off + m)).take N = (C.take N).take off ++ (Y ++ (C.take N).drop q) := by
  have hl : (C.take off).length = off := by rw [List.length_take]; omega
  rw [List.append_assoc, List.take_append, hl, List.take_of_length_le (show (C.take off).length ≤ N by rw [hl]; omega), List.take_append, List.take_of_length_le (show Y.length ≤ N - off by omega), hy, List.take_take, show min off N = off by omega, List.drop_take, hq, show N - off - m = N - (off + m) by omega]
section
open Kd
variable {P : Program}
/-- copy into a row of one's own, from place 'off' on. -/
theorem R_copy_core {W : World} (base : Nat) (t t' e ty : TypeId) (ht : P.underlying t = some (.slice e)) (hinfo : (P.info? e).map (·.size) = some 1)
    (v : Value) (zs ys : List Int) (off : Nat) (A : Option Addr) (m c : Nat) (D : Option Addr) (dc : Nat) (ok : Nat → Prop)
    (HO : (Kd.int .u8).R e W base ok v zs) (HR : (Kd.int .u8).C W A m ys) (hfit : off + ys.length ≤ zs.length)
    (hD : ys ≠ [] → ∀ g cap, v = .slice (some ⟨g, 0, none⟩) zs.length cap → D = some ⟨g, off, none⟩) :
    ∃ w1, (Builtin.copy_ #[t, t'] ty #[.slice D (zs.length - off) dc, .slice A m c]).run P W = .ok (goInt (m : Int)) w1 ∧ (Kd.int .u8).R e w1 base ok v (zs.take off ++ (ys ++ zs.drop (off + ys.length))) ∧ W.grownBy w1 v.ownBlock := by
  have hR := reads_of_C (enc := Value.int .u8) (d := (0 : Int)) (h1 := fun _ => rfl) HR
  have hm : ys.length = m := hR.1
  have hown := own_of_R HO
  rcases Nat.eq_zero_or_pos m with h0 | hp
  · have hy : ys = [] := List.eq_nil_of_length_eq_zero (by omega)
    subst hy
    refine ⟨W, ?_, by simpa using HO, World.grownBy.refl W _⟩
    rw [h0]
    exact run_copy_none W t t' ty e D A (zs.length - off) dc 0 c ht hinfo (Nat.zero_min _)
  · have hy : ys ≠ [] := fun h => by rw [h] at hm; simp at hm; omega
    obtain ⟨ad, hA, hc⟩ := hR.2.2 (by omega)
    rcases hown.2 with ⟨_, hx0⟩ | ⟨g, cap, cur, hv, hb, hh, hnc, hcm, hcs, htake⟩
    · omega
    have hD1 := hD hy g cap hv
    have hcs1 : cur.size = cap := by omega
    have hkl : (encs (Value.int .u8) ys).length = m := by rw [encs_length]; exact hm
    have hmin : min m (zs.length - off) = m := by omega
    have hsrc : ∀ j u, (encs (Value.int .u8) ys)[j]? = some u → W.cell? (ad.add j) = some u := by
      intro j u hu
      have hj : j < ys.length := by
        rcases Nat.lt_or_ge j ys.length with h | h
        · exact h
        · rw [List.getElem?_eq_none (by rw [encs_length]; exact h)] at hu
          cases hu
      rw [encs_get (d := 0) _ j hj] at hu
      rw [hc j (by omega), ← hu]
    have hr := run_copy_cells (P := P) W t t' ty e g off (zs.length - off) dc ad m c (encs (Value.int .u8) ys) ht hinfo (by rw [hkl]; exact hmin.symm) hsrc
      (fun j hj => by rw [cell_of_row W g _ cur e (0, 0) hh]; simp; omega) (fun j _ => blk_frozen hh _) (by intro u hu; simp only [encs, List.mem_map] at hu; obtain ⟨q, _, rfl⟩ := hu; rfl)
    obtain ⟨cur', h3, h4, h5⟩ := setCells_row (encs (Value.int .u8) ys) off W cur hh (by rw [hkl]; omega)
    obtain ⟨s1, s2, s3, s4⟩ := setCells_same g (encs (Value.int .u8) ys) off W
    refine ⟨_, by rw [hD1, hA, hr, hkl], R_of_own ?_ HO.1, s1, s2, s3, by rw [s4]; exact Nat.le_refl _, fun k _ hk => setCells_far _ _ k (fun he => hk (by rw [hv, he]; simp [Value.ownBlock]))⟩
    have hln : (zs.take off ++ (ys ++ zs.drop (off + ys.length))).length = zs.length := by
      simp
      omega
    rw [hln]
    refine ⟨by rw [encs_length, hln, Nat.mul_one], .inr ⟨g, cap, cur', hv, hb, h3, hnc, hcm, by rw [h4, hcs], ?_⟩⟩
    have htk : cur.toList.take zs.length = encs (Value.int .u8) zs := by rw [← htake, Nat.mul_one]
    have hd1 : encs (Value.int .u8) (zs.drop (off + ys.length)) = (encs (Value.int .u8) zs).drop (off + ys.length) := by simp [encs, List.map_drop]
    have hd2 : encs (Value.int .u8) (zs.take off) = (encs (Value.int .u8) zs).take off := by simp [encs, List.map_take]
    have hcl : cur.toList.length = cap := by rw [Array.length_toList]; exact hcs1
    rw [h5, hkl, encs_append, encs_append, hd1, hd2, ← htk, Nat.mul_one]
    exact splice_take cur.toList (encs (Value.int .u8) ys) off zs.length (off + ys.length) m hkl (by omega) (by omega) (by rw [hcl]; omega)
end
theorem R_slice {e : TypeId} {W : World} {base : Nat} {ok : Nat → Prop} {v : Value} {xs : List Int} (H : (Kd.int .u8).R e W base ok v xs) : ∃ A c, v = .slice A xs.length c := own_slice (Kd.own_of_R H)
theorem info5s : (Try.prog.info? 5).map (·.size) = some 1 := by
  obtain ⟨i, hi, h⟩ := Option.map_eq_some_iff.1 info5
  simp only [Prod.mk.injEq] at h
  rw [hi]
  simp [h.2.1]
set_option maxHeartbeats 2000000 in
set_option maxRecDepth 100000 in
theorem be_Encode (x : El) (ok : Nat → Prop) (v : Value) (zs : List Int) (base : Nat) (w : World) (hx : Good w x) (hr : (Kd.int .u8).R 5 w base ok v zs) (hl : zs.length = x.l.length) :
    Calls Try.prog 128 #[.slice x.a x.l.length x.c, v] w fun e w' => e = .returned (.tuple #[]) ∧ (Kd.int .u8).R 5 w' base ok v x.l ∧ w.grownBy w' v.ownBlock := by
  obtain ⟨A, c, hv⟩ := R_slice hr
  obtain ⟨w1, hrun, ho, hg⟩ := R_copy_core (P := Try.prog) base 25 114 5 3 Try.underlying25 info5s v zs x.l 0 x.a x.l.length x.c A c ok hr hx.1 (by omega) (fun _ g cap h => by
    rw [hv] at h
    injection h)
  have hrun' : (Builtin.copy_ #[25, 114] 3 #[v, .slice x.a x.l.length x.c]).run Try.prog w = .ok (goInt (x.l.length : Int)) w1 := by
    rw [hv]
    simpa using hrun
  have ho' : (Kd.int .u8).R 5 w1 base ok v x.l := by
    have h9 : zs.take 0 ++ (x.l ++ zs.drop (0 + x.l.length)) = x.l := by rw [List.drop_eq_nil_of_le (by omega)]; simp
    rwa [h9] at ho
  have HO1 := Aside0.mk ho'
  have HG1 := Aside0.mk hg
  clear hrun ho ho' hg hr hl hx hv
  go_enter Try.func128, Try.ntmps128
  go_wp2
  go_end0
  exact ⟨rfl, HO1.out, HG1.out⟩
theorem be_Len (x : El) (w : World) : Calls Try.prog 129 #[x.v] w fun e w' => e = .returned (.int .i64 (x.l.length : Int)) ∧ w = w' := by
  unfold El.v
  go_enter Try.func129, Try.ntmps129
  go_wp2
  go_ret
  exact ⟨rfl, rfl⟩
end Go.Proofs.Ytmiemfgcggkbnaa.QS
