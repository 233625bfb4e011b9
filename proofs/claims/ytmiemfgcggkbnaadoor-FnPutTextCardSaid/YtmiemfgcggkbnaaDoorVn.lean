/- spec.Writable's plain law, and the calls of the law FnPutText. -/
import Derived.Test.YtmiemfgcggkbnaaDoorVl
import Derived.Test.YtmiemfgcggkbnaaDoorVi
import Derived.Test.YtmiemfgcggkbnaaDoorVm
import Derived.Lib.ValidAsc
import Derived.Lib.ValidLaws
import Derived.Lib.EndianBits
import Derived.Shelf.Unicode.DecodeSlow
import Derived.Laws.BitsAllLaws
namespace Go.Proofs.YtmiemfgcggkbnaaDoor.QT
open Go.BigFrame
open Go.RowKit Go.Proofs.YtmiemfgcggkbnaaDoorW.PrintWords Go.Proofs.YtmiemfgcggkbnaaDoorW.PrintLast Go.Proofs.YtmiemfgcggkbnaaDoorW.PrintMore
set_option linter.unusedVariables false
set_option linter.unusedSimpArgs false
/-- What spec.Writable asks of one letter. -/
def wcB (k c : Int) : Bool := ltB k c || (decide (k = 1) && decide (c = 42))
theorem wc0 (c : Int) : wcB 0 c = numB c := by
  unfold wcB ltB numB
  simp
theorem wc2 (c : Int) : wcB 2 c = ia5B c := by
  unfold wcB ltB ia5B
  simp
theorem wc1 (c : Int) : wcB 1 c = prQ c := by
  unfold wcB ltB prQ prB L12
  simp
  rw [Bool.eq_iff_iff]
  simp
  omega
theorem wr_l0 (k : Int) (hk : k = 0 ∨ k = 1 ∨ k = 2) (s : ByteArray) (hs : s.size ≤ 10000) : ∀ (d i q : Nat), i + d = s.size → d < q → spec_Writable.l0 q k s (s.size : Int) (i : Int) = some (((bytesOf s).drop i).all (fun c => wcB k c))
  | 0, i, q, h, hq => by
    obtain ⟨q, rfl⟩ : ∃ m, q = m + 1 := ⟨q - 1, by omega⟩
    simp only [spec_Writable.l0]
    rw [if_neg (by omega), show (bytesOf s).drop i = [] from List.drop_eq_nil_of_le (by rw [bytesOf_length]; omega)]
    rfl
  | d + 1, i, q, h, hq => by
    obtain ⟨q, rfl⟩ : ∃ m, q = m + 1 := ⟨q - 1, by omega⟩
    have ih := wr_l0 k hk s hs d (i + 1) q (by omega) (by omega)
    have hw : wrap64 ((i : Int) + 1) = ((i + 1 : Nat) : Int) := by unfold wrap64; omega
    have hbr := bt_range s (i : Int)
    simp only [spec_Writable.l0]
    rw [if_pos (by omega), if_pos (by omega), if_pos (by omega), if_pos (by omega), letter_f hk hbr.1 hbr.2]
    simp only [Option.bind_some]
    rw [all_drop (show i < (bytesOf s).length by rw [bytesOf_length]; omega), rd_bytesOf, hw, ih]
    cases hlt : ltB k (bt s (i : Int)) with
    | true =>
      rw [if_pos rfl, show wcB k (bt s (i : Int)) = true by unfold wcB; rw [hlt]; rfl, Bool.true_and]
    | false =>
      rw [if_neg (by decide)]
      by_cases h1 : k = 1
      · rw [if_pos h1]
        by_cases h2 : bt s (i : Int) = 42
        · rw [if_pos h2, show wcB k (bt s (i : Int)) = true by unfold wcB; rw [decide_eq_true h1, decide_eq_true h2]; simp, Bool.true_and]
        · rw [if_neg h2, show wcB k (bt s (i : Int)) = false by unfold wcB; rw [hlt, decide_eq_false h2]; simp, Bool.false_and]
      · rw [if_neg h1, show wcB k (bt s (i : Int)) = false by unfold wcB; rw [hlt, decide_eq_false h1]; simp, Bool.false_and]
theorem wr_l4 (s : ByteArray) (hs : s.size ≤ 10000) : ∀ (d i q : Nat), i + d = s.size → d < q → spec_Writable.l0 q 4 s (s.size : Int) (i : Int) = some true
  | 0, i, q, h, hq => by
    obtain ⟨q, rfl⟩ : ∃ m, q = m + 1 := ⟨q - 1, by omega⟩
    simp only [spec_Writable.l0]
    rw [if_neg (by omega)]
  | d + 1, i, q, h, hq => by
    obtain ⟨q, rfl⟩ : ∃ m, q = m + 1 := ⟨q - 1, by omega⟩
    have ih := wr_l4 s hs d (i + 1) q (by omega) (by omega)
    have hw : wrap64 ((i : Int) + 1) = ((i + 1 : Nat) : Int) := by unfold wrap64; omega
    simp only [spec_Writable.l0]
    rw [if_pos (by omega), if_neg (by omega), hw, ih]
theorem writable_f (k : Int) (hk : k = 0 ∨ k = 1 ∨ k = 2 ∨ k = 4) (s : ByteArray) (hs : s.size ≤ 200) : spec_Writable.f 300 k s = some (wrOk k s) := by
  unfold spec_Writable.f
  rcases hk with rfl | rfl | rfl | rfl
  · have h := wr_l0 0 (by omega) s (by omega) s.size 0 300 (by omega) (by omega)
    rw [List.drop_zero] at h
    simp only [wc0] at h
    exact h
  · have h := wr_l0 1 (by omega) s (by omega) s.size 0 300 (by omega) (by omega)
    rw [List.drop_zero] at h
    simp only [wc1] at h
    exact h
  · have h := wr_l0 2 (by omega) s (by omega) s.size 0 300 (by omega) (by omega)
    rw [List.drop_zero] at h
    simp only [wc2] at h
    exact h
  · exact wr_l4 s (by omega) s.size 0 300 (by omega) (by omega)
theorem bytesOf_in (s : ByteArray) : bytesIn (bytesOf s) := by
  intro x hx
  simp only [bytesOf, List.mem_map] at hx
  obtain ⟨b, _, rfl⟩ := hx
  have := b.toNat_lt
  omega
theorem str_bytesOf (s : ByteArray) : strOfNums (bytesOf s) = s := by
  apply ByteArray.ext
  have h : (List.map ((fun n : Int => UInt8.ofNat n.toNat) ∘ fun b : UInt8 => (b.toNat : Int)) s.data.toList) = s.data.toList := by
    conv => rhs; rw [← List.map_id s.data.toList]
    apply List.map_congr_left
    intro b _
    simp
  simp only [strOfNums, bytesOf, List.map_map, h]
theorem txS_bytes (k : Int) (hk : k = 0 ∨ k = 1 ∨ k = 2 ∨ k = 4) (s : ByteArray) : txS k (bytesOf s) = s := by
  unfold txS
  rw [if_neg (by omega), if_neg (by omega), str_bytesOf]
theorem wr_call (k : Int) (hk : k = 0 ∨ k = 1 ∨ k = 2 ∨ k = 4) (s : ByteArray) (hs : s.size ≤ 200) (b : Bool) (h : wrOk k s = b) (w : World) : Calls Tryd.prog 5 #[.int .i64 k, .string s] w fun e w' => e = .returned (.bool b) ∧ Below w.heap.size w w' :=
  spec_Writable.calls 300 k s b w (by rw [← h]; exact writable_f k hk s hs)
theorem rt_call_yes (A : Option Addr) (n c : Nat) (k : Int) (hk : k = 0 ∨ k = 1 ∨ k = 2 ∨ k = 4) (s : ByteArray) (hs : s.size ≤ 200) (w : World) (hr : Kd.C (Kd.int .u8) w A n (bytesOf s)) (hn : n = (bytesOf s).length) (hc : n ≤ c) (hT : Lib.Utf8Tabs 0 1 w) (h : txOk k (bytesOf s) = true) : Calls Tryd.prog 7 #[.int .i64 k, .slice A n c] w (RtGood w s) := by
  subst hn
  have h9 := RT_yes A c k (bytesOf s) w (by omega) hr hc (bytesOf_in s) (by rw [bytesOf_length]; omega) hT h
  rw [txS_bytes k hk] at h9
  exact h9
theorem rt_call_no (A : Option Addr) (n c : Nat) (k : Int) (hk : k = 0 ∨ k = 1 ∨ k = 2 ∨ k = 4) (s : ByteArray) (hs : s.size ≤ 200) (w : World) (hr : Kd.C (Kd.int .u8) w A n (bytesOf s)) (hn : n = (bytesOf s).length) (hc : n ≤ c) (hT : Lib.Utf8Tabs 0 1 w) (h : txOk k (bytesOf s) = false) : Calls Tryd.prog 7 #[.int .i64 k, .slice A n c] w (RtBad w) := by
  subst hn
  exact RT_no A c k (bytesOf s) w (by omega) hr hc (bytesOf_in s) (by rw [bytesOf_length]; omega) hT h
theorem tx_call_yes (A : Option Addr) (n c : Nat) (k : Int) (hk : k = 0 ∨ k = 1 ∨ k = 2 ∨ k = 4) (s : ByteArray) (hs : s.size ≤ 200) (w : World) (hr : Kd.C (Kd.int .u8) w A n (bytesOf s)) (hn : n = (bytesOf s).length) (hc : n ≤ c) (h : txOk k (bytesOf s) = true) : Calls Tryd.prog 8 #[.int .i64 k, .slice A n c] w (RtGood w s) := by
  subst hn
  have h9 := tx_call k (by omega) A c (bytesOf s) w hr hc (bytesOf_in s) (by rw [bytesOf_length]; omega) true h
  rw [if_pos rfl, txS_bytes k hk] at h9
  exact h9
theorem tx_call_no (A : Option Addr) (n c : Nat) (k : Int) (hk : k = 0 ∨ k = 1 ∨ k = 2 ∨ k = 4) (s : ByteArray) (hs : s.size ≤ 200) (w : World) (hr : Kd.C (Kd.int .u8) w A n (bytesOf s)) (hn : n = (bytesOf s).length) (hc : n ≤ c) (h : txOk k (bytesOf s) = false) : Calls Tryd.prog 8 #[.int .i64 k, .slice A n c] w (RtBad w) := by
  subst hn
  have h9 := tx_call k (by omega) A c (bytesOf s) w hr hc (bytesOf_in s) (by rw [bytesOf_length]; omega) false h
  rw [if_neg (by decide)] at h9
  exact h9
theorem pt_a (w : World) : Calls Tryd.prog 6 #[.int .i64 2, .string (⟨#[97]⟩ : ByteArray)] w (PTGood w (⟨#[97]⟩ : ByteArray)) :=
  pt_yes 2 (⟨#[97]⟩ : ByteArray) w (by omega) (by decide) (by decide)
/-- []byte(s) is read. -/
theorem conv_C (W : World) (s : ByteArray) (hs : s.size ≤ 200) : Kd.C (Kd.int .u8) (Go.Lib.bytesWorld W 5 s) (some ⟨W.heap.size, 0, none⟩) s.size (bytesOf s) :=
  Kd.C_of_reads (d := (0 : Int)) (h1 := fun _ => rfl) (bytes_reads W 5 s (by omega))
end Go.Proofs.YtmiemfgcggkbnaaDoor.QT
