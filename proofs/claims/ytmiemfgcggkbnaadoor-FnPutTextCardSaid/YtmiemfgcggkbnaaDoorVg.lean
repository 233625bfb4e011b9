/- A string written by the stringEncoder: copy, Encode, Len, zzEncoded. -/
import Derived.Test.YtmiemfgcggkbnaaDoorVf
import Derived.Test.YtmiemfgcggkbnaaDoorQTx2
import Derived.Lib.LazyBuf
import Derived.Lib.ValidAsc
import Derived.Lib.ValidLaws
import Derived.Lib.EndianBits
import Derived.Shelf.Unicode.DecodeSlow
import Derived.Laws.BitsAllLaws
namespace Go.Proofs.YtmiemfgcggkbnaaDoor.QT
open Go.RowKit Go.Proofs.YtmiemfgcggkbnaaDoorW.PrintWords Go.Proofs.YtmiemfgcggkbnaaDoorW.PrintLast Go.Proofs.YtmiemfgcggkbnaaDoorW.PrintMore
set_option linter.unusedVariables false
set_option linter.unusedSimpArgs false
section
open Go.Proofs.YtmiemfgcggkbnaaDoorW.PrintWords.Kd
variable {P : Program}
theorem copy_emptyS (w : World) (dT sT ty elem : TypeId) (d : Option Addr) (dLen dCap : Nat) (s : ByteArray)
    (hu : P.underlying dT = some (.slice elem)) (hs : ((P.info? elem).map (·.size)).isSome = true) (h0 : s.size = 0) :
    (Builtin.copy_ #[dT, sT] ty #[.slice d dLen dCap, .string s]).run P w = .ok (goInt 0) w := by
  cases hq : P.info? elem with
  | none => simp [hq] at hs
  | some i =>
    cases d <;> simp [Builtin.copy_, run_underlying hu, Builtin.lenOf, Builtin.firstCells, sizeOf, typeInfo, hq, h0, storeCells]
/-- copy(v, s), s a string as long as the row. -/
theorem R_copyS {W : World} (base : Nat) (t t' e ty : TypeId)
    (ht : P.underlying t = some (.slice e)) (hz : ∀ w, (Go.sizeOf e).run P w = .ok 1 w) (hzs : ((P.info? e).map (·.size)).isSome = true)
    (v : Value) (xs : List Int) (y : ByteArray) (ok : Nat → Prop)
    (HO : (Kd.int .u8).R e W base ok v xs) (hl : xs.length = y.size) :
    ∃ w1, (Builtin.copy_ #[t, t'] ty #[v, .string y]).run P W = .ok (goInt ((y.size : Nat) : Int)) w1 ∧ (Kd.int .u8).R e w1 base ok v (bytesOf y) ∧ W.grownBy w1 v.ownBlock := by
  have hown := own_of_R HO
  rcases Nat.eq_zero_or_pos y.size with h0 | hp
  · obtain ⟨A', c', hv⟩ := own_slice hown
    have hb : bytesOf y = xs := by
      rw [List.eq_nil_of_length_eq_zero (show xs.length = 0 by omega)]
      exact List.eq_nil_of_length_eq_zero (by rw [bytesOf_length]; exact h0)
    refine ⟨W, ?_, by rw [hb]; exact HO, World.grownBy.refl W _⟩
    rw [h0, hv]
    exact copy_emptyS W t t' ty e A' xs.length c' y ht hzs h0
  · rcases hown.2 with ⟨_, hx0⟩ | ⟨g, cap, cur, hv, hb, hh, hnc, hcm, hcs, htake⟩
    · omega
    have hcs1 : cur.size = cap := by omega
    have hbl : (bytesOf y).length = y.size := bytesOf_length y
    have hen : (y.data.toList.map fun x => Value.int .u8 (x.toNat : Int)) = encs (Value.int .u8) (bytesOf y) := by
      simp [encs, bytesOf]
    have hkl : (encs (Value.int .u8) (bytesOf y)).length = y.size := by rw [encs_length, hbl]
    have hr := Go.run_copy_string (P := P) W t t' ty e g 0 xs.length cap y ht hz (by omega)
      (fun j hj => by rw [cell_of_row W g _ cur e (0, 0) hh]; simp; omega) (fun j _ => blk_frozen hh _)
    rw [hen] at hr
    obtain ⟨cur', h3, h4, h5⟩ := setCells_row (encs (Value.int .u8) (bytesOf y)) 0 W cur hh (by rw [hkl]; omega)
    obtain ⟨s1, s2, s3, s4⟩ := setCells_same g (encs (Value.int .u8) (bytesOf y)) 0 W
    refine ⟨_, by rw [hv, hr], R_of_own ?_ HO.1, s1, s2, s3, by rw [s4]; exact Nat.le_refl _, fun k _ hk => setCells_far _ _ k (fun he => hk (by rw [hv, he]; simp [Value.ownBlock]))⟩
    refine ⟨by rw [encs_length, Nat.mul_one], .inr ⟨g, cap, cur', by rw [hv, hbl, hl], hb, h3, by omega, hcm, by rw [h4, hcs], ?_⟩⟩
    rw [h5, List.take_zero, List.nil_append, hkl, hbl, Nat.zero_add, Nat.mul_one]
    rw [List.take_append, hkl, List.take_of_length_le (by rw [hkl]; omega), Nat.sub_self, List.take_zero, List.append_nil]
end
theorem R_len8 {e : TypeId} {W : World} {base : Nat} {ok : Nat → Prop} {v : Value} {xs : List Int} (H : (Kd.int .u8).R e W base ok v xs) : ∃ A c, v = .slice A xs.length c := own_slice (Kd.own_of_R H)
theorem size5 : ∀ w, (Go.sizeOf 5).run Tryd.prog w = .ok 1 w := fun w => by
  obtain ⟨i, hi, h⟩ := Option.map_eq_some_iff.1 info5
  simp only [Prod.mk.injEq] at h
  simp [Go.sizeOf, typeInfo, hi, h.2.1]
theorem info5s : ((Tryd.prog.info? 5).map (·.size)).isSome = true := by
  obtain ⟨i, hi, h⟩ := Option.map_eq_some_iff.1 info5
  rw [hi]
  rfl
set_option maxHeartbeats 2000000 in
theorem sEncode (s : ByteArray) (ok : Nat → Prop) (v : Value) (xs : List Int) (w0 w : World) (HB : Below w0.heap.size w0 w) (hr : (Kd.int .u8).R 5 w w0.heap.size ok v xs) (hl : xs.length = s.size) :
    Calls Tryd.prog 51 #[.string s, v] w fun e w' => e = .returned (.tuple #[]) ∧ (Kd.int .u8).R 5 w' w0.heap.size ok v (bytesOf s) ∧ Below w0.heap.size w0 w' := by
  obtain ⟨w1, hrun, ho, hg⟩ := R_copyS (P := Tryd.prog) w0.heap.size 24 55 5 3 Tryd.underlying24 size5 info5s v xs s ok hr hl
  have HO1 := Aside0.mk ho
  have HB1 := Aside0.mk (HB.grown hg HB.size (own_base (Kd.own_of_R hr)))
  clear HB hr hl ho hg
  go_enter Tryd.func51, Tryd.ntmps51
  go_wp2
  go_end0
  exact ⟨rfl, HO1.out, HB1.out⟩
theorem sLen (s : ByteArray) (w : World) : Calls Tryd.prog 52 #[.string s] w fun e w' => e = .returned (.int .i64 (s.size : Int)) ∧ w = w' := by
  go_enter Tryd.func52, Tryd.ntmps52
  go_wp2
  go_ret
  exact ⟨rfl, rfl⟩
def EncGood (w : World) (s : ByteArray) (e : Ending) (w' : World) : Prop := ∃ v : Value, e = .returned v ∧ (Kd.int .u8).R 5 w' w.heap.size (fun _ => True) v (bytesOf s) ∧ Below w.heap.size w w'
set_option maxHeartbeats 8000000 in
set_option maxRecDepth 100000 in
theorem zzEnc (s : ByteArray) (w : World) (hs : s.size ≤ 10000) : Calls Tryd.prog 21 #[.iface 55 (.string s)] w (EncGood w s) := by
  have C := Aside0.mk (show 0 ≤ ((s.size : Nat) : Int) ∧ ((s.size : Nat) : Int).toNat * 1 ≤ 281474976710656 by omega)
  have HL := Aside0.mk (show (List.replicate ((s.size : Nat) : Int).toNat (0 : Int)).length = s.size by simp)
  have HB := Aside0.mk (Below.refl w.heap.size w)
  have hm1 := fun (w : World) => (show (Go.method 190 55 (.string s) "Len").run Tryd.prog w = .ok (52, .string s) w from by kernel_rfl)
  have hm2 := fun (w : World) => (show (Go.method 190 55 (.string s) "Encode").run Tryd.prog w = .ok (51, .string s) w from by kernel_rfl)
  go_enter Tryd.func21, Tryd.ntmps21
  go_wp2_with (first | (go_at_call 52; (with_reducible refine (sLen s _).mono ?_); rintro e w' ⟨rfl, rfl⟩) | ((with_reducible refine gate_dst (N := 6) rfl ?_); refine Kd.R_make (Kd.int .u8) (w0 := w) w.heap.size 5 ?hg (N := 6) ?hd 24 (.tmp 5) (.tmp 5) rfl (s.size : Int) rfl rfl Tryd.underlying24 (.int .u8 0) 1 info5 rfl (by decide) (by decide) 0 (okp := fun _ => True) (ok := fun _ => True) ?hzero (fun _ h => h) trivial C.out.1 C.out.2 ?hB ?hbase ?_; (case hd => rfl); (case hg => rfl); (case hzero => rfl); (case hB => exact by repeat (first | (with_reducible first | exact HB.out | apply below_alloc | apply pw_below_drewN | apply below_drew1) | exact HB.out)); (case hbase => exact Nat.le_refl _); intro v1 w1 ho hb hg_ hnew_; have HO1 := Aside0.mk ho; have HB1 := Aside0.mk hb; clear ho hb hg_ hnew_) | (go_at_call 51; (with_reducible refine (sEncode s (fun _ => True) v1 _ w w1 HB1.out HO1.out HL.out).mono ?_); rintro e w' ⟨rfl, ho, hb⟩; have HO2 := Aside0.mk ho; have HB2 := Aside0.mk hb; clear ho hb))
  go_ret
  exact ⟨_, rfl, HO2.out, HB2.out⟩
end Go.Proofs.YtmiemfgcggkbnaaDoor.QT
