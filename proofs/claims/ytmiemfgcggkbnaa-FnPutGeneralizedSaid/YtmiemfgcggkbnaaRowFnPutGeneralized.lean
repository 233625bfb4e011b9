/- The law FnPutGeneralized answers true for every time: it is written as GeneralizedTime, without parts of seconds, and read as it was (of the years 0 to 9999; less than a day ahead of UTC or behind it: else it is true at once). -/
import Derived.Test.YtmiemfgcggkbnaaRows
import Derived.Test.YtmiemfgcggkbnaaQP2x10
import Derived.Test.YtmiemfgcggkbnaaPutGPure
import Derived.WalkKit
import Derived.ProofKit
import Derived.OpenShut
import Derived.ShutString
import Derived.ChangeOld
import Derived.Below
import Derived.SizedLaws
import Derived.Lib.SmallJoins
namespace Go.Proofs.Ytmiemfgcggkbnaa.fnPutGeneralized
open Go.ChangeShapes Go.WideShapes Go.ChangeAt Go.RowKit Go.Joins
open Go.Deep (oneCellFields hone_of)
open Go.ChangeMaps (open_string shut_string)
open Go.Proofs.Ytmiemfgcggkbnaa.QP2
set_option linter.unusedVariables false
set_option linter.unusedSimpArgs false
section
variable {H : Type} {enc : TypeId × Value → H} {P : Program} {w : World} {base : Nat} {spare : Nat → Bool} {held : Bool}
theorem open_agg8 {r : Reach} {b0 : Nat} {t : TypeId} {f0 f1 f2 f3 f4 f5 f6 f7 : Field} {v : Value} {d : DataW H} {p : List MemPlace} (hs : P.underlying t = some (.struct #[f0, f1, f2, f3, f4, f5, f6, f7])) (hone : oneCellFields P #[f0, f1, f2, f3, f4, f5, f6, f7] = true) (hC : P.cellsOf t = 8)
    (hv : Value.okWide P w r b0 t v) (h : DataW.Trod enc P w base spare held t v d p) :
    ∃ (v0 v1 v2 v3 v4 v5 v6 v7 : Value) (y0 y1 y2 y3 y4 y5 y6 y7 : DataW H × List MemPlace) (n : Nat), v = .agg #[v0, v1, v2, v3, v4, v5, v6, v7] ∧ d = .agg [y0.1, y1.1, y2.1, y3.1, y4.1, y5.1, y6.1, y7.1] ∧ p = y0.2 ++ (y1.2 ++ (y2.2 ++ (y3.2 ++ (y4.2 ++ (y5.2 ++ (y6.2 ++ (y7.2))))))) ∧
      DataW.trod enc P w base spare held n f0.type [v0] = some y0 ∧ DataW.trod enc P w base spare held n f1.type [v1] = some y1 ∧ DataW.trod enc P w base spare held n f2.type [v2] = some y2 ∧ DataW.trod enc P w base spare held n f3.type [v3] = some y3 ∧ DataW.trod enc P w base spare held n f4.type [v4] = some y4 ∧ DataW.trod enc P w base spare held n f5.type [v5] = some y5 ∧ DataW.trod enc P w base spare held n f6.type [v6] = some y6 ∧ DataW.trod enc P w base spare held n f7.type [v7] = some y7 := by
  obtain ⟨cs, rfl, hsz⟩ := okWide_struct hs hv
  obtain ⟨l⟩ := cs
  match l, hsz.trans hC with
  | [c0, c1, c2, c3, c4, c5, c6, c7], _ =>
    obtain ⟨fuel, hf⟩ := h
    obtain ⟨xs, n, _, hx, _, hlen, hg⟩ := DataW.trod_struct hs hf
    obtain ⟨o0, k0⟩ := hone_of hone 0 f0 rfl
    obtain ⟨o1, k1⟩ := hone_of hone 1 f1 rfl
    obtain ⟨o2, k2⟩ := hone_of hone 2 f2 rfl
    obtain ⟨o3, k3⟩ := hone_of hone 3 f3 rfl
    obtain ⟨o4, k4⟩ := hone_of hone 4 f4 rfl
    obtain ⟨o5, k5⟩ := hone_of hone 5 f5 rfl
    obtain ⟨o6, k6⟩ := hone_of hone 6 f6 rfl
    obtain ⟨o7, k7⟩ := hone_of hone 7 f7 rfl
    match xs, hlen with
    | [y0, y1, y2, y3, y4, y5, y6, y7], _ =>
      simp only [Prod.mk.injEq] at hx
      exact ⟨c0, c1, c2, c3, c4, c5, c6, c7, y0, y1, y2, y3, y4, y5, y6, y7, n, rfl, by simpa using hx.1, by simpa using hx.2, by simpa [Value.cells, o0, k0] using hg 0 f0 rfl, by simpa [Value.cells, o1, k1] using hg 1 f1 rfl, by simpa [Value.cells, o2, k2] using hg 2 f2 rfl, by simpa [Value.cells, o3, k3] using hg 3 f3 rfl, by simpa [Value.cells, o4, k4] using hg 4 f4 rfl, by simpa [Value.cells, o5, k5] using hg 5 f5 rfl, by simpa [Value.cells, o6, k6] using hg 6 f6 rfl, by simpa [Value.cells, o7, k7] using hg 7 f7 rfl⟩
end
theorem own : ownKnob Try.prog.godebug = none := by kernel_rfl
theorem laidOut : laidOutB Try.prog = true := by kernel_rfl
theorem cells47 : Try.prog.cellsOf 47 = 8 := by kernel_rfl
set_option maxRecDepth 100000 in
theorem lifted (os : Os) (started : os.Started) (H : Type) (enc : TypeId × Value → H) :
    ReturnsInHanded {} Try.checked os 8 .any (Rows.fnPutGeneralizedSpec.pre6 enc Try.prog Try.f8 Rows.fnPutGeneralizedRow.domain false) (Rows.fnPutGeneralizedSpec.post enc Try.prog Try.f8 false true false false) := by
  refine returnsInHanded_of_change_sized (C := Try.checked) own started (by kernel_rfl) Try.func8
    (ChangeSpec.witness6 (enc := enc) (C := Try.checked) false ⟨#[], #[.agg #[.int .i64 0, .int .i64 0, .int .i64 0, .int .i64 0, .int .i64 0, .int .i64 0, .int .i64 0, .int .i64 0]], []⟩ 8 (by kernel_rfl) (by kernel_rfl) (by kernel_rfl) (by kernel_rfl)) ?_
  intro W base args ds gs before hval0 hW hcnd hsz0 _
  have hval : ∀ (j : Nat) t v, Try.f8.params[j]? = some t → args[j]? = some v → Value.okWide Try.prog W .any base t v := hval0
  have hW' := hW
  obtain ⟨p, q, hA0, hV, rfl, hfz, hnd⟩ := hW
  have hA : DataW.TrodAll enc Try.prog W 0 (fun _ => true) true Try.f8.params.toList args.toList ds p := hA0
  rw [Try.params8] at hA hval
  obtain ⟨v0, vs0, d0, ds0, p0, q0, hargs, rfl, rfl, h0, r0⟩ := trodAll_cons hA
  obtain ⟨rfl, rfl, rfl⟩ := trodAll_nil r0
  obtain rfl : args = #[v0] := by cases args; simp_all
  obtain ⟨rfl, rfl⟩ := trodVars_none hV
  have k0 := h0
  have lt0 : ∀ x ∈ p0, x.block < W.heap.size := by obtain ⟨m, hm⟩ := k0; exact DataW.trod_lt m _ _ _ hm
  obtain ⟨e0, e1, e2, e3, e4, e5, e6, e7, y0, y1, y2, y3, y4, y5, y6, y7, n, rfl, rfl, rfl, g0, g1, g2, g3, g4, g5, g6, g7⟩ := open_agg8 Try.underlying47 (by kernel_rfl) cells47 (hval 0 47 v0 rfl rfl) h0
  obtain ⟨a0, z0, rfl, w0⟩ := DataW.trod_int Try.underlying3 g0
  obtain ⟨a1, z1, rfl, w1⟩ := DataW.trod_int Try.underlying3 g1
  obtain ⟨a2, z2, rfl, w2⟩ := DataW.trod_int Try.underlying3 g2
  obtain ⟨a3, z3, rfl, w3⟩ := DataW.trod_int Try.underlying3 g3
  obtain ⟨a4, z4, rfl, w4⟩ := DataW.trod_int Try.underlying3 g4
  obtain ⟨a5, z5, rfl, w5⟩ := DataW.trod_int Try.underlying3 g5
  obtain ⟨a6, z6, rfl, w6⟩ := DataW.trod_int Try.underlying3 g6
  obtain ⟨a7, z7, rfl, w7⟩ := DataW.trod_int Try.underlying3 g7
  simp only [List.cons.injEq, and_true] at z0 z1 z2 z3 z4 z5 z6 z7
  subst z0 z1 z2 z3 z4 z5 z6 z7
  clear hA0 hval0 hsz0
  refine (laws_FnPutGeneralized.calls 10 a0 a1 a2 a3 a4 a5 a6 a7 true W (PureG.pure_ a0 a1 a2 a3 a4 a5 a6 a7) rfl).mono fun e W' ⟨he, bel⟩ => ?_
  subst he
  exact ⟨_, rfl, _, _, _, [], _, [], hW', trodAll_mk1 (shut_bool Try.underlying4 _), (trodAll_cons_mk (Below.trod laidOut (by kernel_rfl) (of_decide_eq_true (by kernel_rfl)) k0 bel lt0) trodAll_mk0), rfl, bel.frame _, fun h => by cases h⟩
theorem over : Rows.fnPutGeneralizedRow.holds Try.pinned (OpenSpec.ofChange Rows.fnPutGeneralizedSpec) :=
  OpenClaim.holds_of_wide 8 Try.f8 rfl rfl rfl rfl rfl rfl rfl ⟨rfl, rfl, rfl, rfl, rfl⟩ rfl rfl rfl rfl rfl (by kernel_rfl) Try.func8 (by kernel_rfl)
    (of_decide_eq_true (by kernel_rfl)) (by unfold Func.isWrapper; first | (rw [if_pos (by decide +kernel)]; kernel_rfl) | (rw [if_neg (by decide +kernel)]; exact ⟨rfl, rfl⟩))
    (fun os started H enc _ => lifted os started H enc)
theorem proved : Rows.FnPutGeneralizedSaid := over
#print axioms proved
end Go.Proofs.Ytmiemfgcggkbnaa.fnPutGeneralized
namespace Go.Proofs.Ytmiemfgcggkbnaa
/-- The row, under a short name, for the claim. -/
theorem fnPutGeneralized_holds : Rows.FnPutGeneralizedSaid := fnPutGeneralized.proved
end Go.Proofs.Ytmiemfgcggkbnaa
