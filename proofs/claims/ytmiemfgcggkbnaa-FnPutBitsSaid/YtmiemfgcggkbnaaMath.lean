/- Plain facts on bits, wraps and lists of bytes that the claims of this seat share. No program in sight. -/
import Derived.Test.YtmiemfgcggkbnaaWMore
namespace Go.Proofs.Ytmiemfgcggkbnaa.Math
open Go.RowKit Go.Proofs.YtmiemfgcggkbnaaW.PrintWords Go.Proofs.YtmiemfgcggkbnaaW.PrintLast Go.Proofs.YtmiemfgcggkbnaaW.PrintMore
set_option linter.unusedVariables false
set_option linter.unusedSimpArgs false

theorem wrap64_id {x : Int} (h0 : -9223372036854775808 ≤ x) (h1 : x ≤ 9223372036854775807) : wrap64 x = x := by unfold wrap64; omega
theorem wrap32_id {x : Int} (h0 : -2147483648 ≤ x) (h1 : x ≤ 2147483647) : wrap32 x = x := by unfold wrap32; omega
theorem wraps_i64 (n : Int) (h₀ : 0 ≤ n) (h₁ : n < 2 ^ 63) : IntKind.i64.wrap n = n := by rw [IntKind.wrap_i64]; omega

theorem u8_low7 {x : Int} (h0 : 0 ≤ x) (h1 : x ≤ 255) : bits .and .u8 x 127 = x % 128 := bits_mask .u8 8 (by decide) wraps_u8 7 (by decide) x h0 (by omega)
theorem i64_low7 {x : Int} (h0 : 0 ≤ x) (h1 : x ≤ 9223372036854775807) : bits .and .i64 x 127 = x % 128 := bits_mask .i64 63 (by decide) wraps_i64 7 (by decide) x h0 (by omega)
theorem u8_bit_tab : ∀ n : Fin 256, bits .and .u8 ((n.val : Nat) : Int) 128 = 128 * (((n.val : Nat) : Int) / 128) := by decide +kernel
theorem u8_and128 {x : Int} (h0 : 0 ≤ x) (h1 : x ≤ 255) : bits .and .u8 x 128 = 128 * (x / 128) := by
  obtain ⟨n, rfl⟩ := Int.eq_ofNat_of_zero_le h0
  exact u8_bit_tab ⟨n, by omega⟩
theorem i64_join7 {x y : Int} (hx0 : 0 ≤ x) (hx : x % 128 = 0) (hx1 : x ≤ 9223372036854775807) (h0 : 0 ≤ y) (h1 : y < 128) : bits .or .i64 x y = x + y :=
  bits_join .i64 63 (by decide) wraps_i64 7 x y hx0 hx (by omega) h0 (by omega) (by omega)
theorem i64_join8 {x y : Int} (hx0 : 0 ≤ x) (hx : x % 256 = 0) (hx1 : x ≤ 9223372036854775807) (h0 : 0 ≤ y) (h1 : y < 256) : bits .or .i64 x y = x + y :=
  bits_join .i64 63 (by decide) wraps_i64 8 x y hx0 hx (by omega) h0 (by omega) (by omega)
theorem bits_or_comm (k : IntKind) (x y : Int) : bits .or k x y = bits .or k y x := by simp only [bits, BitVec.or_comm]
theorem u8_or128lo {y : Int} (h0 : 0 ≤ y) (h1 : y < 128) : bits .or .u8 y 128 = 128 + y := by
  rw [bits_or_comm]; exact bits_join .u8 8 (by decide) wraps_u8 7 128 y (by omega) (by omega) (by omega) h0 (by omega) (by omega)
theorem i64_or128lo {y : Int} (h0 : 0 ≤ y) (h1 : y < 128) : bits .or .i64 y 128 = 128 + y := by
  rw [bits_or_comm]; exact bits_join .i64 63 (by decide) wraps_i64 7 128 y (by omega) (by omega) (by omega) h0 (by omega) (by omega)

/-- A byte of a list of bytes. -/
def Bytes (l : List Int) : Prop := ∀ x ∈ l, (Lit.int .u8 x).wf = true
theorem wf_byte {x : Int} (h : (Lit.int .u8 x).wf = true) : 0 ≤ x ∧ x ≤ 255 := by
  simpa [Lit.wf, IntKind.min, IntKind.max, IntKind.signed, IntKind.bits] using h
theorem byte_wf {x : Int} (h0 : 0 ≤ x) (h1 : x ≤ 255) : (Lit.int .u8 x).wf = true := by
  simp [Lit.wf, IntKind.min, IntKind.max, IntKind.signed, IntKind.bits]; omega
theorem rd_byte {l : List Int} (h : Bytes l) (i : Int) : 0 ≤ rd l i ∧ rd l i ≤ 255 := by
  unfold rd
  by_cases hi : i.toNat < l.length
  · rw [List.getD_eq_getElem?_getD, List.getElem?_eq_getElem hi]; exact wf_byte (h _ (List.getElem_mem hi))
  · rw [List.getD_eq_getElem?_getD, List.getElem?_eq_none (by omega)]; simp
theorem wf_i64 {x : Int} (h : (Lit.int .i64 x).wf = true) : -9223372036854775808 ≤ x ∧ x ≤ 9223372036854775807 := by
  simpa [Lit.wf, IntKind.min, IntKind.max, IntKind.signed, IntKind.bits] using h
theorem bytes_single {x : Int} (h0 : 0 ≤ x) (h1 : x ≤ 255) : Bytes [x] := by
  intro y hy; simp at hy; subst hy; exact byte_wf h0 h1
end Go.Proofs.Ytmiemfgcggkbnaa.Math
