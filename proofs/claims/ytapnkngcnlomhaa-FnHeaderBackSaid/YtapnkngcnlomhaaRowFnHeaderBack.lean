/- A tag and a length that are written are read as they were, wherever they stand: the law FnHeaderBack answers true for every byte string ahead and every header (more than 50 bytes ahead, classes beyond 0 to 3, and tags and lengths below 0 or of more than 31 bits, make it true at once). This text: the row. -/
import Derived.Test.YtapnkngcnlomhaaRows
import Derived.Test.YtapnkngcnlomhaaHBack
import Derived.Test.YtapnkngcnlomhaaWSized
import Derived.WalkKit
import Derived.ProofKit
import Derived.OpenShut
import Derived.ShutString
import Derived.ChangeOld
import Derived.Below
import Derived.SizedLaws
import Derived.Lib.SmallJoins
namespace Go.Proofs.Ytapnkngcnlomhaa.fnHeaderBack
open Go.ChangeShapes Go.WideShapes Go.ChangeAt Go.RowKit Go.Joins
open Go.ChangeMaps (open_string shut_string)
open Go.Proofs.Ytapnkngcnlomhaa.QH Go.Proofs.Ytapnkngcnlomhaa.HBack Go.Proofs.YtapnkngcnlomhaaW.PrintWords Go.Proofs.YtapnkngcnlomhaaW.PrintLast Go.Proofs.YtapnkngcnlomhaaW.PrintMore
set_option linter.unusedVariables false
set_option linter.unusedSimpArgs false

theorem own : ownKnob Try.prog.godebug = none := by kernel_rfl
theorem laidOut : laidOutB Try.prog = true := by kernel_rfl
def IsRow (k : IntKind) (w : World) (a : Option Addr) (len cap : Nat) (zs : List Int) : Prop :=
  (a = none ∧ len = 0 ∧ cap = 0 ∧ zs = []) ∨
  ∃ x, a = some x ∧ len ≤ cap ∧ cap ≤ maxLen ∧ zs.length = cap ∧ (∀ i, i < zs.length → w.cell? (x.add i) = some (.int k (zs.getD i 0))) ∧ ∀ n ∈ zs, (Lit.int k n).wf = true
theorem cells41 : Try.prog.cellsOf 41 = 4 := by kernel_rfl
set_option maxRecDepth 100000 in
theorem lifted (os : Os) (started : os.Started) (H : Type) (enc : TypeId × Value → H) :
    ReturnsInHanded {} Try.checked os 13 .any (Rows.fnHeaderBackSpec.pre6 enc Try.prog Try.f13 Rows.fnHeaderBackRow.domain false) (Rows.fnHeaderBackSpec.post enc Try.prog Try.f13 false true false false) := by
  refine returnsInHanded_of_change_sized (C := Try.checked) own started (by kernel_rfl) Try.func13
    (ChangeSpec.witness6 (enc := enc) (C := Try.checked) false ⟨#[], #[.slice none 0 0, .agg #[.int .i64 0, .int .i64 0, .int .i64 0, .bool false]], []⟩ 8 (by kernel_rfl) (by kernel_rfl) (by kernel_rfl) (by kernel_rfl)) ?_
  intro W base args ds gs before hval0 hW hcnd hsz0 _
  have hsz : (DataW.weightsEach Try.prog (Try.f13.params.toList ++ Rows.fnHeaderBackSpec.plain.varTypes Try.prog) (ds ++ gs)).all (· ≤ reachBytes) = true := hsz0
  have hval : ∀ (j : Nat) t v, Try.f13.params[j]? = some t → args[j]? = some v → Value.okWide Try.prog W .any base t v := hval0
  have hW' := hW
  obtain ⟨p, q, hA0, hV, rfl, hfz, hnd⟩ := hW
  have hA : DataW.TrodAll enc Try.prog W 0 (fun _ => true) true Try.f13.params.toList args.toList ds p := hA0
  rw [Try.params13] at hA hval hsz
  obtain ⟨v0, vs0, d0, ds0, p0, q0, hargs, rfl, rfl, h0, r0⟩ := trodAll_cons hA
  obtain ⟨v1, vs1, d1, ds1, p1, q1, rfl, rfl, rfl, h1, r1⟩ := trodAll_cons r0
  obtain ⟨rfl, rfl, rfl⟩ := trodAll_nil r1
  obtain rfl : args = #[v0, v1] := by cases args; simp_all
  obtain ⟨rfl, rfl⟩ := trodVars_none hV
  obtain ⟨a0, len0, cap0, rfl⟩ := okWide_slice Try.underlying22 (hval 0 22 v0 rfl rfl)
  have k0 := h0
  have lt0 : ∀ x ∈ p0, x.block < W.heap.size := by obtain ⟨m, hm⟩ := k0; exact DataW.trod_lt m _ _ _ hm
  obtain ⟨z0, w0⟩ : ∃ zs, IsRow .u8 W a0 len0 cap0 zs := by
    obtain ⟨fuel, hf⟩ := h0
    rcases open_ints Try.underlying22 Try.underlying5 (by kernel_rfl) hf with ⟨hcs, _⟩ | ⟨x, l, c, zs, hcs, _, hl, hm, hz, _, hcell, hwz⟩
    · simp [Value.cells] at hcs
      obtain ⟨rfl, rfl, rfl⟩ := hcs
      exact ⟨[], .inl ⟨rfl, rfl, rfl, rfl⟩⟩
    · simp [Value.cells] at hcs
      obtain ⟨rfl, rfl, rfl⟩ := hcs
      exact ⟨zs, .inr ⟨_, rfl, hl, hm, by simpa using hz, hcell, hwz⟩⟩
  have y0 : len0 * 1 ≤ 140737488351232 := Go.Proofs.YtapnkngcnlomhaaW.PrintWords.sized_ints hsz (j := 0) (t := 22) rfl rfl Try.underlying22 Try.underlying5 (by kernel_rfl) (by kernel_rfl) h0
  have k1 := h1
  have lt1 : ∀ x ∈ p1, x.block < W.heap.size := by obtain ⟨m, hm⟩ := k1; exact DataW.trod_lt m _ _ _ hm
  obtain ⟨e0, e1, e2, e3, y0', y1, y2, y3, n, rfl, rfl, rfl, g0, g1, g2, g3⟩ := open_agg4 Try.underlying41 (by kernel_rfl) cells41 (hval 1 41 v1 rfl rfl) h1
  obtain ⟨b0, z0', rfl, wb0⟩ := DataW.trod_int Try.underlying3 g0
  obtain ⟨b1, z1, rfl, wb1⟩ := DataW.trod_int Try.underlying3 g1
  obtain ⟨b2, z2, rfl, wb2⟩ := DataW.trod_int Try.underlying3 g2
  obtain ⟨b3, z3, rfl⟩ := DataW.trod_bool Try.underlying4 g3
  simp only [List.cons.injEq, and_true] at z0' z1 z2 z3
  subst z0' z1 z2 z3
  clear hA0 hval0 hsz0 hsz
  obtain ⟨l0, rfl, hr0, hm0, hw0, hc0⟩ := ReadsInt.ofRowC w0
  refine (laws_FnHeaderBack.calls 300 _ _ l0 b0 b1 b2 b3 true W (Kd.C_of_reads (d := (0 : Int)) (h1 := fun _ => rfl) hr0) hc0 (pure_ l0 b0 b1 b2 b3 hw0)).mono fun e W' ⟨he, bel⟩ => ?_
  subst he
  exact ⟨_, rfl, _, _, _, [], _, [], hW', trodAll_mk1 (shut_bool Try.underlying4 _), (trodAll_cons_mk (Below.trod laidOut (by kernel_rfl) (of_decide_eq_true (by kernel_rfl)) k0 bel lt0) (trodAll_cons_mk (Below.trod laidOut (by kernel_rfl) (of_decide_eq_true (by kernel_rfl)) k1 bel lt1) trodAll_mk0)), rfl, bel.frame _, fun h => by cases h⟩
theorem over : Rows.fnHeaderBackRow.holds Try.pinned (OpenSpec.ofChange Rows.fnHeaderBackSpec) :=
  OpenClaim.holds_of_wide 13 Try.f13 rfl rfl rfl rfl rfl rfl rfl ⟨rfl, rfl, rfl, rfl, rfl⟩ rfl rfl rfl rfl rfl (by kernel_rfl) Try.func13 (by kernel_rfl)
    (of_decide_eq_true (by kernel_rfl)) (by unfold Func.isWrapper; first | (rw [if_pos (by decide +kernel)]; kernel_rfl) | (rw [if_neg (by decide +kernel)]; exact ⟨rfl, rfl⟩))
    (fun os started H enc _ => lifted os started H enc)
theorem proved : Rows.FnHeaderBackSaid := over
#print axioms proved
end Go.Proofs.Ytapnkngcnlomhaa.fnHeaderBack
namespace Go.Proofs.Ytapnkngcnlomhaa
/-- The row, under a short name, for the claim. -/
theorem fnHeaderBack_holds : Rows.FnHeaderBackSaid := fnHeaderBack.proved
end Go.Proofs.Ytapnkngcnlomhaa
