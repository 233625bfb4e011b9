/- Byte slices by their headers; bytes.Compare by the model's own entry. -/
import Derived.Test.YtmiemfgcggkbnaaSoA
import Derived.Lib.BytesEntry
import Derived.Laws.Externs
import Derived.Test.YtmiemfgcggkbnaaQSx0
namespace Go.Proofs.Ytmiemfgcggkbnaa.QS
set_option linter.unusedVariables false
set_option linter.unusedSimpArgs false
open Go.RowKit Go.Proofs.YtmiemfgcggkbnaaW.PrintWords Go.Proofs.YtmiemfgcggkbnaaW.PrintLast Go.Proofs.YtmiemfgcggkbnaaW.PrintMore
/-- A byte slice: its header and its bytes. -/
structure El where
  a : Option Addr
  c : Nat
  l : List Int
def El.v (e : El) : Value := .slice e.a e.l.length e.c
theorem El.one (e : El) : e.v.oneCell' = true := rfl
/-- Rows of byte slices, told by their headers. -/
def KV : Kd El := Kd.scalar El.v El.one
def bytesIn (l : List Int) : Prop := ∀ x, x ∈ l → 0 ≤ x ∧ x ≤ 255
/-- The slice's bytes lie there. -/
def Good (w : World) (e : El) : Prop := Kd.C (Kd.int .u8) w e.a e.l.length e.l ∧ e.l.length ≤ e.c ∧ bytesIn e.l
theorem Good.below {w W : World} {e : El} (h : Good w e) (hB : Below w.heap.size w W) : Good W e := ⟨Kd.C_below h.1 hB, h.2⟩
theorem ext_bytes (e : El) (w : World) (h : Good w e) : (Extern.Bytes.bytesOf e.v).run Try.prog w = .ok (⟨(Go.Lib.bytesOf e.l).toArray⟩ : ByteArray) w := by
  obtain ⟨hc, hl, hb⟩ := h
  have hr := Kd.reads_of_C (enc := Value.int .u8) (d := (0 : Int)) (h1 := fun _ => rfl) hc
  unfold El.v
  cases ha : e.a with
  | none =>
    have h0 : e.l = [] := by
      rcases Nat.eq_zero_or_pos e.l.length with h | h
      · exact List.eq_nil_of_length_eq_zero h
      · obtain ⟨ad, h9, _⟩ := hr.2.2 h
        rw [ha] at h9
        cases h9
    rw [h0]
    rfl
  | some ad =>
    rcases Nat.eq_zero_or_pos e.l.length with h0 | h0
    · rw [List.eq_nil_of_length_eq_zero h0]
      rfl
    · obtain ⟨ad', h9, hcell⟩ := hr.2.2 h0
      rw [ha] at h9
      obtain rfl := Option.some.inj h9
      have hl := Go.Lib.run_loadBytesX (P := Try.prog) (w := w) e.l ad .empty (fun j x hj => by
        have hlt : j < e.l.length := by
          rcases Nat.lt_or_ge j e.l.length with h | h
          · exact h
          · rw [List.getElem?_eq_none h] at hj; cases hj
        have h8 := hcell j hlt
        rw [h8]
        simp [List.getD_eq_getElem?_getD, hj])
      simp only [Extern.Bytes.bytesOf]
      rw [hl]
      simp
theorem ext43 (x y : El) (w : World) (hx : Good w x) (hy : Good w y) : (callFunc 43 #[x.v, y.v]).run Try.prog w = .ok (.value (.int .i64 (cmpI x.l y.l))) w := by
  rw [run_callFunc_extern Try.func43 (by kernel_rfl) (by kernel_rfl) (by kernel_rfl) (e := Extern.BytealgCompare.compare) (by kernel_rfl)]
  have hrun : (Extern.BytealgCompare.compare #[x.v, y.v]).run Try.prog w = .ok (.int .i64 (cmpI x.l y.l)) w := by
    change Sem.run Try.prog (do pure (goInt (Extern.BytealgCompare.cmp (← Extern.Bytes.bytesOf x.v) (← Extern.Bytes.bytesOf y.v)))) w = _
    simp only [Sem.run_bind, Sem.run_pure, Result.andThen, ext_bytes x w hx, ext_bytes y w hy]
    rw [Go.Lib.cmp_eq]
    have h9 := cmpI_bytes x.l y.l hx.2.2 hy.2.2
    have e1 : ∀ l : List Int, Go.Lib.bytesOf l = l.map fun n => UInt8.ofNat n.toNat := fun l => by
      simp [Go.Lib.bytesOf]
    simp only [e1]
    rw [h9]
    rfl
  rw [hrun]
  rfl
set_option maxHeartbeats 1000000 in
theorem cmp16 (x y : El) (w : World) (hx : Good w x) (hy : Good w y) : Calls Try.prog 16 #[x.v, y.v] w fun e w' => e = .returned (.int .i64 (cmpI x.l y.l)) ∧ w' = w := by
  have he := ext43 x y w hx hy
  generalize x.v = vx at he ⊢
  generalize y.v = vy at he ⊢
  generalize cmpI x.l y.l = r at he ⊢
  clear hx hy
  go_enter Try.func16, Try.ntmps16
  go_wp2
  go_ret
  exact ⟨rfl, rfl⟩
end Go.Proofs.Ytmiemfgcggkbnaa.QS
