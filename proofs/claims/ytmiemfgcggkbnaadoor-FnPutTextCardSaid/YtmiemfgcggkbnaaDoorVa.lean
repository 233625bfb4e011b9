/- What the hand walks of the texts share: a byte slice as a string, and the word of eight bytes. -/
import Derived.Test.YtmiemfgcggkbnaaDoorQTx1
import Derived.Lib.ValidAsc
import Derived.Lib.ValidLaws
import Derived.Lib.EndianBits
import Derived.Shelf.Unicode.DecodeSlow
import Derived.Laws.BitsAllLaws
namespace Go.Proofs.YtmiemfgcggkbnaaDoor.QT
open Go.BigFrame
open Go.RowKit Go.Proofs.YtmiemfgcggkbnaaDoorW.PrintWords Go.Proofs.YtmiemfgcggkbnaaDoorW.PrintLast Go.Proofs.YtmiemfgcggkbnaaDoorW.PrintMore
set_option linter.unusedVariables false
set_option linter.unusedSimpArgs false
def bytesIn (l : List Int) : Prop := ∀ x, x ∈ l → 0 ≤ x ∧ x ≤ 255
theorem bytesIn_dr {l : List Int} (h : bytesIn l) (n : Nat) : bytesIn (l.drop n) := fun x hx => h x (List.mem_of_mem_drop hx)
theorem add_zero_ (a : Addr) : a.add 0 = a := by
  unfold Addr.add
  rfl
theorem bt_str {l : List Int} (hb : bytesIn l) (i : Int) : bt (strOfNums l) i = rd l i := by
  unfold bt rd
  have hsz := strOfNums_size l
  by_cases h : i.toNat < l.length
  · rw [dif_pos (by rw [hsz]; exact h), List.getD_eq_getElem?_getD, List.getElem?_eq_getElem h]
    have hx := hb _ (List.getElem_mem h)
    have : (strOfNums l)[i.toNat]'(by rw [hsz]; exact h) = UInt8.ofNat (l[i.toNat]).toNat := by
      rw [ByteArray.getElem_eq_getElem_data]
      simp [strOfNums]
    rw [this]
    simp only [Option.getD_some]
    rw [UInt8.toNat_ofNat']
    omega
  · rw [dif_neg (by rw [hsz]; exact h), List.getD_eq_getElem?_getD, List.getElem?_eq_none (by omega)]
    rfl
theorem ext_str (l : List Int) (n : Nat) : (strOfNums l).extract n (strOfNums l).size = strOfNums (l.drop n) := by
  apply ByteArray.ext
  rw [ByteArray.data_extract]
  apply Array.ext'
  rw [strOfNums_size]
  show ((l.map fun n => UInt8.ofNat n.toNat).toArray.extract n l.length).toList = _
  rw [strOfNums_data]
  simp
  rw [List.take_of_length_le (by simp)]
/-- A row of bytes that is read, as a string. -/
def BS (w : World) (A : Option Addr) (n c : Nat) (t : ByteArray) : Prop := ∃ m : List Int, t = strOfNums m ∧ n = m.length ∧ n ≤ c ∧ bytesIn m ∧ Kd.C (Kd.int .u8) w A n m
theorem BS.size {w : World} {A : Option Addr} {n c : Nat} {t : ByteArray} (h : BS w A n c t) : n = t.size := by
  obtain ⟨m, rfl, rfl, -, -, -⟩ := h
  rw [strOfNums_size]
theorem BS.below {w W : World} {A : Option Addr} {n c : Nat} {t : ByteArray} (h : BS w A n c t) (hB : Below w.heap.size w W) : BS W A n c t := by
  obtain ⟨m, e1, e2, e3, e4, e5⟩ := h
  exact ⟨m, e1, e2, e3, e4, Kd.C_below e5 hB⟩
theorem str_get {m : List Int} (hb : bytesIn m) (i : Nat) (hi : i < m.length) : (((strOfNums m).get! i).toNat : Int) = rd m (i : Int) := by
  rw [Utf8W.get!_of_lt _ i (by rw [strOfNums_size]; exact hi), ← bt_str hb]
  exact bt_at (strOfNums m) (i : Int) (by rw [strOfNums_size]; simpa using hi)
theorem BS.at {w W : World} {A : Option Addr} {n c : Nat} {t : ByteArray} (h : BS w A n c t) (hB : Below w.heap.size w W) (i : Nat) (hi : i < n) : ∃ ad, A = some ad ∧ W.cell? (ad.add i) = some (.int .u8 ((t.get! i).toNat : Int)) := by
  obtain ⟨m, rfl, rfl, -, hb, hc⟩ := h
  obtain ⟨ad, e, h9⟩ := Kd.at_int (Kd.C_below hc hB) (i : Int) (by omega) (by omega)
  refine ⟨ad, e, ?_⟩
  rw [str_get hb i hi]
  simpa using h9
theorem cut_l24 (A : Option Addr) (n c : Nat) (j : Nat) (hm : j ≤ n) : ∀ W : World, (Instr.slice 24 (.slice A n c) (some (.int .i64 (j : Int))) none none).run Tryd.prog W = .ok (.slice (if c = j then A else A.map (·.add (j * (Kd.int .u8).sz))) (n - j) (c - j)) W := by
  intro W
  obtain ⟨i0, hi0, _, hsz, _⟩ := info_parts info5
  have h := cut_from 24 5 .i64 Tryd.underlying24 hi0 1 hsz A n c (j : Int) (by omega) (by omega) W
  rw [h]
  simp [Kd.int, Kd.scalar]
theorem BS.cut {w : World} {A : Option Addr} {n c : Nat} {t : ByteArray} (h : BS w A n c t) (k : Nat) (hk : k ≤ n) : ∃ (A1 : Option Addr) (n1 c1 : Nat), n1 + k = n ∧ BS w A1 n1 c1 (t.extract k t.size) ∧ ∀ W : World, (Instr.slice 24 (.slice A n c) (some (.int .i64 (k : Int))) none none).run Tryd.prog W = .ok (.slice A1 n1 c1) W := by
  obtain ⟨m, rfl, rfl, hc, hb, hr⟩ := h
  refine ⟨_, m.length - k, c - k, by omega, ⟨m.drop k, ext_str m k, by rw [List.length_drop], by omega, bytesIn_dr hb k, ?_⟩, cut_l24 A m.length c k hk⟩
  have := Kd.C_drop hr hk hc
  rw [List.length_drop] at this
  exact this
set_option maxRecDepth 100000 in
theorem word_f {m : List Int} (hb : bytesIn m) (h : 8 ≤ m.length) : utf8_word_byte.f m = some ((Lib.leNat [(strOfNums m).get! 0, (strOfNums m).get! 1, (strOfNums m).get! 2, (strOfNums m).get! 3, (strOfNums m).get! 4, (strOfNums m).get! 5, (strOfNums m).get! 6, (strOfNums m).get! 7] : Nat) : Int) := by
  have e0 := str_get hb 0 (by omega)
  have e1 := str_get hb 1 (by omega)
  have e2 := str_get hb 2 (by omega)
  have e3 := str_get hb 3 (by omega)
  have e4 := str_get hb 4 (by omega)
  have e5 := str_get hb 5 (by omega)
  have e6 := str_get hb 6 (by omega)
  have e7 := str_get hb 7 (by omega)
  have l0 := ((strOfNums m).get! 0).toNat_lt
  have l1 := ((strOfNums m).get! 1).toNat_lt
  have l2 := ((strOfNums m).get! 2).toNat_lt
  have l3 := ((strOfNums m).get! 3).toNat_lt
  have l4 := ((strOfNums m).get! 4).toNat_lt
  have l5 := ((strOfNums m).get! 5).toNat_lt
  have l6 := ((strOfNums m).get! 6).toNat_lt
  have l7 := ((strOfNums m).get! 7).toNat_lt
  generalize (strOfNums m).get! 0 = x0 at *
  generalize (strOfNums m).get! 1 = x1 at *
  generalize (strOfNums m).get! 2 = x2 at *
  generalize (strOfNums m).get! 3 = x3 at *
  generalize (strOfNums m).get! 4 = x4 at *
  generalize (strOfNums m).get! 5 = x5 at *
  generalize (strOfNums m).get! 6 = x6 at *
  generalize (strOfNums m).get! 7 = x7 at *
  have hv : ((Lib.leNat [x0, x1, x2, x3, x4, x5, x6, x7] : Nat) : Int) = (x0.toNat : Int) + (x1.toNat : Int) * 256 + (x2.toNat : Int) * 65536 + (x3.toNat : Int) * 16777216 + (x4.toNat : Int) * 4294967296 + (x5.toNat : Int) * 1099511627776 + (x6.toNat : Int) * 281474976710656 + (x7.toNat : Int) * 72057594037927936 := by
    simp only [Lib.leNat]
    push_cast
    omega
  rw [hv]
  unfold utf8_word_byte.f
  rw [if_pos (by omega), if_pos (by omega), if_pos (by omega), if_pos (by omega), if_pos (by omega), if_pos (by omega), if_pos (by omega), if_pos (by omega)]
  rw [show rd m 0 = (x0.toNat : Int) from e0.symm, show rd m 1 = (x1.toNat : Int) from e1.symm, show rd m 2 = (x2.toNat : Int) from e2.symm, show rd m 3 = (x3.toNat : Int) from e3.symm, show rd m 4 = (x4.toNat : Int) from e4.symm, show rd m 5 = (x5.toNat : Int) from e5.symm, show rd m 6 = (x6.toNat : Int) from e6.symm, show rd m 7 = (x7.toNat : Int) from e7.symm]
  simp (disch := omega) only [u64_wrap_id, u64_or8, u64_or16, u64_or24, u64_or32, u64_or40, u64_or48, u64_or56]
theorem BS.word {w W : World} {A : Option Addr} {n c : Nat} {t : ByteArray} (h : BS w A n c t) (hB : Below w.heap.size w W) (h8 : 8 ≤ n) : Calls Tryd.prog 33 #[.slice A n c] W fun e w' => e = .returned (.int .u64 ((Lib.leNat [t.get! 0, t.get! 1, t.get! 2, t.get! 3, t.get! 4, t.get! 5, t.get! 6, t.get! 7] : Nat) : Int)) ∧ ∃ q, w' = W.drewN q := by
  obtain ⟨m, rfl, rfl, hc, hb, hr⟩ := h
  exact (utf8_word_byte.calls A c m _ W (Kd.C_below hr hB) hc (word_f hb h8)).mono fun _ _ ⟨he, ⟨hd⟩⟩ => ⟨he, hd⟩
set_option maxRecDepth 100000 in
theorem and7 : ∀ X : Fin 256, bits .and .u8 ((X.val : Nat) : Int) 7 = ((X.val % 8 : Nat) : Int) := by decide
set_option maxRecDepth 100000 in
theorem shr4 : ∀ X : Fin 256, ((X.val : Nat) : Int) / 16 = ((X.val / 16 : Nat) : Int) := fun X => by omega
end Go.Proofs.YtmiemfgcggkbnaaDoor.QT
