/- A tag and a length are written as shortly as they can be: the law FnPutHeader answers true for every header (classes beyond 0 to 3, and tags and lengths below 0 or of more than 31 bits, make it true at once). This text: the plain statement over numbers, and the row. -/
import Derived.Test.YtapnkngcnlomhaaRows
import Derived.Test.YtapnkngcnlomhaaQAx8
import Derived.Test.YtapnkngcnlomhaaHead
import Derived.WalkKit
import Derived.ProofKit
import Derived.OpenShut
import Derived.ShutString
import Derived.ChangeOld
import Derived.Below
import Derived.SizedLaws
import Derived.Lib.SmallJoins
namespace Go.Proofs.Ytapnkngcnlomhaa.fnPutHeader
open Go.ChangeShapes Go.WideShapes Go.ChangeAt Go.RowKit Go.Joins
open Go.ChangeMaps (open_string shut_string)
open Go.Proofs.Ytapnkngcnlomhaa.QA Go.Proofs.Ytapnkngcnlomhaa.Math Go.Proofs.Ytapnkngcnlomhaa.Base Go.Proofs.Ytapnkngcnlomhaa.Head
set_option linter.unusedVariables false
set_option linter.unusedSimpArgs false

theorem pure_ (c t n : Int) (m : Bool) (hc : (Lit.int .i64 c).wf = true) (ht : (Lit.int .i64 t).wf = true) (hn : (Lit.int .i64 n).wf = true) : laws_FnPutHeader.f 30 c t n m = some true := by
  have tr : ∀ a b d e, laws_FnPutHeader.j0 30 true a b d e = some true := fun a b d e => by rw [laws_FnPutHeader.j0, if_pos rfl]
  unfold laws_FnPutHeader.f
  by_cases h1 : c < 0
  · rw [if_pos h1, tr]
  rw [if_neg h1]
  by_cases h2 : c > 3
  · rw [if_pos h2, tr]
  rw [if_neg h2]
  by_cases h3 : t < 0
  · rw [if_pos h3, tr]
  rw [if_neg h3]
  by_cases h4 : t > 2147483647
  · rw [if_pos h4, tr]
  rw [if_neg h4]
  by_cases h5 : n < 0
  · rw [if_pos h5, tr]
  rw [if_neg h5]
  by_cases h6 : n > 2147483647
  · rw [decide_eq_true h6, tr]
  rw [decide_eq_false h6, laws_FnPutHeader.j0, if_neg (by simp)]
  obtain ⟨t, rfl⟩ := Int.eq_ofNat_of_zero_le (show 0 ≤ t by omega)
  obtain ⟨n, rfl⟩ := Int.eq_ofNat_of_zero_le (show 0 ≤ n by omega)
  obtain ⟨L, hL⟩ := takes n (by omega)
  have e1 : impl_PutHeader.f 29 c t n m = some (tagBytes c t m ++ lenBytes n L) := by
    unfold impl_PutHeader.f asn1_ZZPutHeader.f
    rw [if_neg h1, if_neg h2, if_neg h3, if_neg h4, if_neg h5, if_neg h6, asn_f 29 (by omega) c (by omega) (by omega) t n L (by omega) hL m]
    rfl
  rw [e1, spec_f 29 (by omega) c (by omega) (by omega) t n L (by omega) hL m]
  simp only [Option.bind_some, equal_self]

theorem own : ownKnob Try.prog.godebug = none := by kernel_rfl
theorem laidOut : laidOutB Try.prog = true := by kernel_rfl
theorem cells41 : Try.prog.cellsOf 41 = 4 := by kernel_rfl
set_option maxRecDepth 100000 in
theorem lifted (os : Os) (started : os.Started) (H : Type) (enc : TypeId × Value → H) :
    ReturnsInHanded {} Try.checked os 10 .any (Rows.fnPutHeaderSpec.pre6 enc Try.prog Try.f10 Rows.fnPutHeaderRow.domain false) (Rows.fnPutHeaderSpec.post enc Try.prog Try.f10 false true false false) := by
  refine returnsInHanded_of_change_sized (C := Try.checked) own started (by kernel_rfl) Try.func10
    (ChangeSpec.witness6 (enc := enc) (C := Try.checked) false ⟨#[], #[.agg #[.int .i64 0, .int .i64 0, .int .i64 0, .bool false]], []⟩ 8 (by kernel_rfl) (by kernel_rfl) (by kernel_rfl) (by kernel_rfl)) ?_
  intro W base args ds gs before hval0 hW hcnd hsz0 _
  have hval : ∀ (j : Nat) t v, Try.f10.params[j]? = some t → args[j]? = some v → Value.okWide Try.prog W .any base t v := hval0
  have hW' := hW
  obtain ⟨p, q, hA0, hV, rfl, hfz, hnd⟩ := hW
  have hA : DataW.TrodAll enc Try.prog W 0 (fun _ => true) true Try.f10.params.toList args.toList ds p := hA0
  rw [Try.params10] at hA hval
  obtain ⟨v0, vs0, d0, ds0, p0, q0, hargs, rfl, rfl, h0, r0⟩ := trodAll_cons hA
  obtain ⟨rfl, rfl, rfl⟩ := trodAll_nil r0
  obtain rfl : args = #[v0] := by cases args; simp_all
  obtain ⟨rfl, rfl⟩ := trodVars_none hV
  have k0 := h0
  have lt0 : ∀ x ∈ p0, x.block < W.heap.size := by obtain ⟨m, hm⟩ := k0; exact DataW.trod_lt m _ _ _ hm
  obtain ⟨e0, e1, e2, e3, y0, y1, y2, y3, n, rfl, rfl, rfl, g0, g1, g2, g3⟩ := open_agg4 Try.underlying41 (by kernel_rfl) cells41 (hval 0 41 v0 rfl rfl) h0
  obtain ⟨a0, z0, rfl, w0⟩ := DataW.trod_int Try.underlying3 g0
  obtain ⟨a1, z1, rfl, w1⟩ := DataW.trod_int Try.underlying3 g1
  obtain ⟨a2, z2, rfl, w2⟩ := DataW.trod_int Try.underlying3 g2
  obtain ⟨a3, z3, rfl⟩ := DataW.trod_bool Try.underlying4 g3
  simp only [List.cons.injEq, and_true] at z0 z1 z2 z3
  subst z0 z1 z2 z3
  clear hA0 hval0 hsz0
  refine (laws_FnPutHeader.calls 30 a0 a1 a2 a3 true W (pure_ a0 a1 a2 a3 w0 w1 w2)).mono fun e W' ⟨he, bel⟩ => ?_
  subst he
  exact ⟨_, rfl, _, _, _, [], _, [], hW', trodAll_mk1 (shut_bool Try.underlying4 _), (trodAll_cons_mk (Below.trod laidOut (by kernel_rfl) (of_decide_eq_true (by kernel_rfl)) k0 bel lt0) trodAll_mk0), rfl, bel.frame _, fun h => by cases h⟩
theorem over : Rows.fnPutHeaderRow.holds Try.pinned (OpenSpec.ofChange Rows.fnPutHeaderSpec) :=
  OpenClaim.holds_of_wide 10 Try.f10 rfl rfl rfl rfl rfl rfl rfl ⟨rfl, rfl, rfl, rfl, rfl⟩ rfl rfl rfl rfl rfl (by kernel_rfl) Try.func10 (by kernel_rfl)
    (of_decide_eq_true (by kernel_rfl)) (by unfold Func.isWrapper; first | (rw [if_pos (by decide +kernel)]; kernel_rfl) | (rw [if_neg (by decide +kernel)]; exact ⟨rfl, rfl⟩))
    (fun os started H enc _ => lifted os started H enc)
theorem proved : Rows.FnPutHeaderSaid := over
#print axioms proved
end Go.Proofs.Ytapnkngcnlomhaa.fnPutHeader
namespace Go.Proofs.Ytapnkngcnlomhaa
/-- The row, under a short name, for the claim. -/
theorem fnPutHeader_holds : Rows.FnPutHeaderSaid := fnPutHeader.proved
end Go.Proofs.Ytapnkngcnlomhaa
