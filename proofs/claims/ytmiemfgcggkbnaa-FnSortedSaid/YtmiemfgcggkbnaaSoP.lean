/- slices.Clone and slices.Grow. -/
import Derived.Test.YtmiemfgcggkbnaaSoO
import Derived.Shelf.Spec.SlicesGrow
import Derived.Shelf.Lay
import Derived.Ground.Names8Prog
namespace Go.Proofs
open Go.Shelf
shelf_lay_g Lays8.n4 Nm8 4 at Try 46 as Try.growL
end Go.Proofs
namespace Go.Proofs.Ytmiemfgcggkbnaa.QS
set_option linter.unusedVariables false
set_option linter.unusedSimpArgs false
open Go.RowKit Go.Proofs.YtmiemfgcggkbnaaW.PrintWords Go.Proofs.YtmiemfgcggkbnaaW.PrintLast Go.Proofs.YtmiemfgcggkbnaaW.PrintMore
theorem zeros_size (n m : Nat) : ((#[] : Array Value) ++ Builtin.zeroCells (Value.int .u8 0).cells n ++ Builtin.zeroCells (Value.int .u8 0).cells m).size = n + m := by
  rw [Array.size_append, Array.size_append, size_zeroCells, size_zeroCells]
  simp [Value.cells]
def RowTo (w : World) (es : List El) (e : Ending) (w' : World) : Prop := ∃ v : Value, e = .returned v ∧ KV.R 25 w' w.heap.size (fun _ => True) v es ∧ Below w.heap.size w w'
set_option maxHeartbeats 4000000 in
set_option maxRecDepth 100000 in
theorem cl_nil (c : Nat) (w : World) : Calls Try.prog 13 #[.slice none 0 c] w (RowTo w []) := by
  have heq : ∀ W : World, (binOp .eql 22 (.slice none 0 c) (.slice none 0 0)).run Try.prog W = .ok (.bool true) W := fun W => Go.Lib.run_eql_slice_nil W 22 25 none 0 c 0 0 Try.underlying22
  go_enter Try.func13, Try.ntmps13
  go_wp2
  go_ret
  exact ⟨_, rfl, Kd.R_nil KV 25 w w.heap.size (fun _ => True), Below.refl _ _⟩
theorem heap_alloc (w : World) (o : Obj) : (w.alloc o).heap[w.heap.size]? = some o := by
  show (w.heap.push o)[w.heap.size]? = some o
  simp
theorem own_empty (w : World) : KV.R 25 (w.alloc (.cells #[] 25)) w.heap.size (fun _ => True) (.slice (some ⟨w.heap.size, 0, none⟩) 0 0) [] := by
  refine Kd.R_of_own (enc := El.v) (h1 := El.one) ?_ (fun _ _ => trivial)
  exact ⟨rfl, .inr ⟨w.heap.size, 0, #[], rfl, Nat.le_refl _, heap_alloc w _, Nat.le_refl _, by decide, rfl, rfl⟩⟩
set_option maxHeartbeats 4000000 in
set_option maxRecDepth 100000 in
theorem cl_some (A : Addr) (c : Nat) (es : List El) (w : World) (hr : KV.C w (some A) es.length es) (hn1 : es.length ≤ 1000) : Calls Try.prog 13 #[.slice (some A) es.length c] w (RowTo w es) := by
  have HR := Aside0.mk hr
  have HN1 := Aside0.mk hn1
  have HE := Aside0.mk (own_empty w)
  have HB := Aside0.mk (below_alloc (Below.refl w.heap.size w) (.cells #[] 25))
  have heq : ∀ W : World, (binOp .eql 22 (.slice (some A) es.length c) (.slice none 0 0)).run Try.prog W = .ok (.bool false) W := fun W => Go.Lib.run_eql_slice_nil W 22 25 (some A) es.length c 0 0 Try.underlying22
  clear hr hn1
  go_enter Try.func13, Try.ntmps13
  go_wp2_with (first
    | ((with_reducible refine gate_builtin (b := .append) (xs := #[.tmp 5, .tmp 6]) rfl ?_); at_builtin; refine Kd.R_append_rows KV (w0 := w) w.heap.size rfl (.tmp 5) (.tmp 6) 22 25 (.slice none 0 0) 24 rfl Try.underlying22 info25 rfl (by decide) (by decide) (.slice (some ⟨w.heap.size, 0, none⟩) 0 0) ([] : List El) es _ _ _ (fun _ => True) (fun _ => False) rfl rfl ?aO ?aR (fun _ _ h => h) (fun _ h => h.elim) ?aF ?aB ?aS ?aL ?_; (case aR => exact Kd.C_alloc HR.out _); (case aB => exact HB.out); (case aF => exact (fun _ _ => trivial)); (case aO => exact HE.out); (case aS => exact HB.out.size); (case aL => have := HN1.out; simp; omega); intro v9 w9 ho hb hg hat; have HO9 := Aside0.mk ho; have HB9 := Aside0.mk hb; clear ho hb hg hat))
  go_ret
  exact ⟨_, rfl, HO9.out, HB9.out⟩
theorem cl_Clone (A : Option Addr) (c : Nat) (es : List El) (w : World) (hr : KV.C w A es.length es) (hn1 : es.length ≤ 1000) : Calls Try.prog 13 #[.slice A es.length c] w (RowTo w es) := by
  cases A with
  | none =>
    have h0 : es = [] := by
      have h9 := Kd.reads_of_C (enc := El.v) (d := nilEl) (h1 := El.one) hr
      rcases Nat.eq_zero_or_pos es.length with h | h
      · exact List.eq_nil_of_length_eq_zero h
      · obtain ⟨ad, h8, _⟩ := h9.2.2 h
        cases h8
    subst h0
    exact cl_nil c w
  | some ad => exact cl_some ad c es w hr hn1
def ByTo (w : World) (l : List Int) (e : Ending) (w' : World) : Prop := ∃ v : Value, e = .returned v ∧ (Kd.int .u8).R 5 w' w.heap.size (fun _ => True) v l ∧ Below w.heap.size w w'
theorem gr_Grow (n : Nat) (w : World) (hn : n ≤ 10000) : Calls Try.prog 46 #[.slice none 0 0, .int .i64 (n : Int)] w (ByTo w []) := by
  rcases Nat.eq_zero_or_pos n with h0 | hp
  · subst h0
    exact (Go.Proofs.Any8.slices_Grow_room Try.growL none 0 0 0 w (by omega) (by omega) (by omega) (by omega)).mono fun e w' ⟨he, hw⟩ => ⟨_, he, by rw [hw]; exact Kd.R_nil (Kd.int .u8) 5 w w.heap.size (fun _ => True), by rw [hw]; exact Below.refl _ _⟩
  · obtain ⟨i, hi, h9⟩ := Option.map_eq_some_iff.1 info5
    simp only [Prod.mk.injEq] at h9
    obtain ⟨hz, hs, hby⟩ := h9
    have h := Go.Proofs.Any8.slices_Grow_grow Try.growL i (.int .u8 0) hi hz (by omega) none 0 0 n [] w (by omega) (by omega) (by rw [hby]; omega) (by omega) (by simp) (fun _ => rfl) (fun a h => by cases h)
    have e5 : Try.growL_ren.t 25 = 5 := rfl
    rw [e5] at h
    refine h.mono fun e w' ⟨he, hw⟩ => ⟨_, he, ?_, ?_⟩
    · rw [hw]
      have hG : 0 + n ≤ grownCap w (0 + n) 0 5 := grownCap_ge w _ _ _
      have hG2 : grownCap w (0 + n) 0 5 ≤ maxLen := grownCap_le_maxLen w _ 0 5 (by unfold maxLen; omega)
      refine Kd.R_of_own (enc := Value.int .u8) (h1 := fun _ => rfl) ?_ (fun _ _ => trivial)
      refine ⟨rfl, .inr ⟨w.heap.size, grownCap w (0 + n) 0 5, _, rfl, Nat.le_refl _, heap_alloc w.drew _, Nat.zero_le _, hG2, ?_, rfl⟩⟩
      rw [zeros_size]
      omega
    · rw [hw]
      exact below_alloc (below_drew (Below.refl _ _)) _
end Go.Proofs.Ytmiemfgcggkbnaa.QS
