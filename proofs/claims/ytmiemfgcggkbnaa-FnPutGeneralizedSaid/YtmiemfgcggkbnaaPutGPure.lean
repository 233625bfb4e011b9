/- Plain facts: a time is written as GeneralizedTime by the package as by the reference, and read as it was. No memory and no walk. -/
import Derived.Test.YtmiemfgcggkbnaaQP2x4
import Derived.Test.YtmiemfgcggkbnaaQP2x6
import Derived.Test.YtmiemfgcggkbnaaQP2x8
import Derived.Test.YtmiemfgcggkbnaaQP2x9
import Derived.Test.YtmiemfgcggkbnaaQP2x10
set_option linter.unusedSimpArgs false
set_option linter.unusedVariables false
namespace Go.Proofs.Ytmiemfgcggkbnaa.PureG
open Go.RowKit Go.Proofs.Ytmiemfgcggkbnaa.QP2 Go.Proofs.YtmiemfgcggkbnaaW.PrintWords Go.Proofs.YtmiemfgcggkbnaaW.PrintLast
def bytesIn (l : List Int) : Prop := ∀ x, x ∈ l → 0 ≤ x ∧ x ≤ 255
theorem bt_str {l : List Int} (hb : bytesIn l) (i : Int) : bt (strOfNums l) i = rd l i := by
  unfold bt rd
  have hsz := strOfNums_size l
  by_cases h : i.toNat < l.length
  · rw [dif_pos (by rw [hsz]; exact h), List.getD_eq_getElem?_getD, List.getElem?_eq_getElem h]
    have hx := hb _ (List.getElem_mem h)
    have : (strOfNums l)[i.toNat]'(by rw [hsz]; exact h) = UInt8.ofNat (l[i.toNat]).toNat := by
      rw [ByteArray.getElem_eq_getElem_data]
      simp [strOfNums]
    rw [this]
    simp only [Option.getD_some]
    rw [UInt8.toNat_ofNat']
    omega
  · rw [dif_neg (by rw [hsz]; exact h), List.getD_eq_getElem?_getD, List.getElem?_eq_none (by omega)]
    rfl
theorem ext_str (l : List Int) (n : Nat) : (strOfNums l).extract n (strOfNums l).size = strOfNums (l.drop n) := by
  apply ByteArray.ext
  rw [ByteArray.data_extract]
  apply Array.ext'
  rw [strOfNums_size]
  show ((l.map fun n => UInt8.ofNat n.toNat).toArray.extract n l.length).toList = _
  rw [strOfNums_data]
  simp
  rw [List.take_of_length_le (by simp)]
theorem toList_str (l : List Int) : (strOfNums l).toList = l.map fun n => UInt8.ofNat n.toNat := by
  unfold strOfNums
  rw [show (ByteArray.mk (l.map fun n => UInt8.ofNat n.toNat).toArray) = ByteArray.mk ⟨l.map fun n => UInt8.ofNat n.toNat⟩ from rfl, ByteArray.toList_mk]
theorem list90 {l : List Int} (hb : bytesIn l) : (strOfNums l).toList = ([90] : List UInt8) ↔ l = [90] := by
  rw [toList_str]
  constructor
  · intro h
    match l, h with
    | [], h => cases h
    | [x], h =>
      simp only [List.map_cons, List.map_nil, List.cons.injEq, and_true] at h
      have hx := hb x (by simp)
      have := congrArg UInt8.toNat h
      rw [UInt8.toNat_ofNat'] at this
      have h90 : (90 : UInt8).toNat = 90 := rfl
      rw [h90] at this
      have : x = 90 := by omega
      rw [this]
    | _ :: _ :: _, h => simp at h
  · rintro rfl
    rfl
/-- Two figures at the front. -/
def l1 (l : List Int) (i : Int) : Bool := decide (48 ≤ rd l i) && decide (rd l i ≤ 57)
def l2 (l : List Int) : Bool := decide (2 ≤ l.length) && l1 l 0 && l1 l 1
def lv (l : List Int) : Int := 10 * (rd l 0 - 48) + (rd l 1 - 48)
theorem dg2_str {l : List Int} (hb : bytesIn l) : dg2 (strOfNums l) = l2 l := by
  unfold dg2 l2 d1 l1
  rw [strOfNums_size, bt_str hb, bt_str hb]
theorem dv2_str {l : List Int} (hb : bytesIn l) : dv2 (strOfNums l) = lv l := by
  unfold dv2 lv
  rw [bt_str hb, bt_str hb]
theorem dr2_str (l : List Int) : dr2 (strOfNums l) = strOfNums (l.drop 2) := ext_str l 2
theorem lv_range {l : List Int} (h : l2 l = true) : 0 ≤ lv l ∧ lv l ≤ 99 := by
  simp only [l2, l1, Bool.and_eq_true, decide_eq_true_eq] at h
  unfold lv
  omega
theorem bytesIn_d {l : List Int} (h : bytesIn l) (n : Nat) : bytesIn (l.drop n) := fun x hx => h x (List.mem_of_mem_drop hx)
/-- A zone, read by the package: Z, or a sign and hours (to 24) and minutes, not all 0. -/
def lzOk (l : List Int) : Bool := decide (l = [90]) || (decide (l.length = 5) && (rd l 0 == 43 || rd l 0 == 45) && l2 (l.drop 1) && l2 (l.drop 3) && decide (lv (l.drop 1) ≤ 24) && decide (lv (l.drop 3) ≤ 59) && !(lv (l.drop 1) * 60 + lv (l.drop 3) == 0))
def lzV (l : List Int) : Int := if l = [90] then 0 else if lzOk l = true then (if rd l 0 = 45 then -(lv (l.drop 1) * 60 + lv (l.drop 3)) else lv (l.drop 1) * 60 + lv (l.drop 3)) else 0
theorem zO_str {l : List Int} (hb : bytesIn l) : zO (strOfNums l) = lzOk l := by
  unfold zO lzOk zN
  rw [ext_str l 1, dr2_str, List.drop_drop, strOfNums_size, bt_str hb, dg2_str (bytesIn_d hb _), dg2_str (bytesIn_d hb _), dv2_str (bytesIn_d hb _), dv2_str (bytesIn_d hb _)]
  have : ((strOfNums l).toList == ([90] : List UInt8)) = decide (l = [90]) := by
    rw [Bool.eq_iff_iff, beq_iff_eq, decide_eq_true_eq]
    exact list90 hb
  rw [this]
theorem zV_str {l : List Int} (hb : bytesIn l) : zV (strOfNums l) = lzV l := by
  unfold zV lzV zN
  rw [zO_str hb, ext_str l 1, dr2_str, List.drop_drop, bt_str hb, dv2_str (bytesIn_d hb _), dv2_str (bytesIn_d hb _)]
  by_cases h : l = [90]
  · rw [if_pos ((list90 hb).2 h), if_pos h]
  · rw [if_neg (fun h' => h ((list90 hb).1 h')), if_neg h]
/-- Four figures at the front. -/
def l4 (l : List Int) : Bool := decide (4 ≤ l.length) && l1 l 0 && l1 l 1 && l1 l 2 && l1 l 3
def lv4 (l : List Int) : Int := 1000 * (rd l 0 - 48) + 100 * (rd l 1 - 48) + 10 * (rd l 2 - 48) + (rd l 3 - 48)
theorem dg4_str {l : List Int} (hb : bytesIn l) : dg4 (strOfNums l) = l4 l := by
  unfold dg4 l4 d1 l1
  rw [strOfNums_size, bt_str hb, bt_str hb, bt_str hb, bt_str hb]
theorem dv4_str {l : List Int} (hb : bytesIn l) : dv4 (strOfNums l) = lv4 l := by
  unfold dv4 lv4
  rw [bt_str hb, bt_str hb, bt_str hb, bt_str hb]
theorem dr4_str (l : List Int) : dr4 (strOfNums l) = strOfNums (l.drop 4) := ext_str l 4
theorem lv4_range {l : List Int} (h : l4 l = true) : 0 ≤ lv4 l ∧ lv4 l ≤ 9999 := by
  simp only [l4, l1, Bool.and_eq_true, decide_eq_true_eq] at h
  unfold lv4
  omega
/-- The year and all five pairs of figures. -/
def six (l : List Int) : Bool := l4 l && l2 (l.drop 4) && l2 (l.drop 6) && l2 (l.drop 8) && l2 (l.drop 10) && l2 (l.drop 12)
theorem six_of {l : List Int} (h : six l = true) : l4 l = true ∧ l2 (l.drop 4) = true ∧ l2 (l.drop 6) = true ∧ l2 (l.drop 8) = true ∧ l2 (l.drop 10) = true ∧ l2 (l.drop 12) = true := by
  simp only [six, Bool.and_eq_true] at h
  exact ⟨h.1.1.1.1.1, h.1.1.1.1.2, h.1.1.1.2, h.1.1.2, h.1.2, h.2⟩
theorem drg_str {l : List Int} : dr4 (strOfNums l) = strOfNums (l.drop 4) ∧ dr2 (dr4 (strOfNums l)) = strOfNums (l.drop 6) ∧ dr2 (dr2 (dr4 (strOfNums l))) = strOfNums (l.drop 8) ∧ dr2 (dr2 (dr2 (dr4 (strOfNums l)))) = strOfNums (l.drop 10) ∧ gR4 (strOfNums l) = strOfNums (l.drop 12) ∧ gR5 (strOfNums l) = strOfNums (l.drop 14) := by
  have e1 := dr4_str l
  have e2 : dr2 (dr4 (strOfNums l)) = strOfNums (l.drop 6) := by rw [e1, dr2_str, List.drop_drop]
  have e3 : dr2 (dr2 (dr4 (strOfNums l))) = strOfNums (l.drop 8) := by rw [e2, dr2_str, List.drop_drop]
  have e4 : dr2 (dr2 (dr2 (dr4 (strOfNums l)))) = strOfNums (l.drop 10) := by rw [e3, dr2_str, List.drop_drop]
  have e5 : gR4 (strOfNums l) = strOfNums (l.drop 12) := by unfold gR4; rw [e4, dr2_str, List.drop_drop]
  have e6 : gR5 (strOfNums l) = strOfNums (l.drop 14) := by unfold gR5; rw [e5, dr2_str, List.drop_drop]
  exact ⟨e1, e2, e3, e4, e5, e6⟩
theorem gD_str {l : List Int} (hb : bytesIn l) : (dg4 (strOfNums l) && gD (strOfNums l) && dg2 (gR4 (strOfNums l))) = six l := by
  obtain ⟨e1, e2, e3, e4, e5, e6⟩ := @drg_str l
  unfold gD six
  rw [e5, e4, e3, e2, e1, dg4_str hb, dg2_str (bytesIn_d hb _), dg2_str (bytesIn_d hb _), dg2_str (bytesIn_d hb _), dg2_str (bytesIn_d hb _), dg2_str (bytesIn_d hb _)]
  cases l4 l <;> cases l2 (l.drop 4) <;> cases l2 (l.drop 6) <;> cases l2 (l.drop 8) <;> cases l2 (l.drop 10) <;> cases l2 (l.drop 12) <;> rfl
theorem gB_str {l : List Int} (hb : bytesIn l) (h : six l = true) (na : Int) (h0 : 0 ≤ na ∧ na < 1000000000) : (gB (strOfNums l) && decide (dv2 (gR4 (strOfNums l)) < 60)) = rightB (lv4 l) (lv (l.drop 4)) (lv (l.drop 6)) (lv (l.drop 8)) (lv (l.drop 10)) (lv (l.drop 12)) na 0 := by
  obtain ⟨e1, e2, e3, e4, e5, e6⟩ := @drg_str l
  obtain ⟨a, b, c, d, e, f⟩ := six_of h
  have ry := lv4_range a
  have rd' := lv_range d
  have re := lv_range e
  have rf := lv_range f
  unfold gB dateB rightB
  rw [e5, e4, e3, e2, e1, dv4_str hb, dv2_str (bytesIn_d hb _), dv2_str (bytesIn_d hb _), dv2_str (bytesIn_d hb _), dv2_str (bytesIn_d hb _), dv2_str (bytesIn_d hb _)]
  rw [decide_eq_true (show 0 ≤ lv4 l by omega), decide_eq_true (show lv4 l ≤ 9999 by omega), decide_eq_true (show 0 ≤ lv (l.drop 8) by omega), decide_eq_true (show 0 ≤ lv (l.drop 10) by omega), decide_eq_true (show 0 ≤ lv (l.drop 12) by omega), decide_eq_true h0.1, decide_eq_true h0.2]
  simp only [Bool.true_and, Bool.and_true, show decide ((-1440 : Int) < 0) = true from rfl, show decide ((0 : Int) < 1440) = true from rfl]
/-- Two figures. -/
def D (n : Int) : List Int := [48 + n / 10, 48 + n % 10]
def Zn (a : Int) : List Int := if a = 0 then [90] else if 0 < a then 43 :: (D (a / 60) ++ D (a % 60)) else 45 :: (D (-a / 60) ++ D (-a % 60))
def OutB (mo d h mi s a : Int) : List Int := D mo ++ (D d ++ (D h ++ (D mi ++ (D s ++ Zn a))))
theorem D_two (x : List Int) (n : Int) (h0 : 0 ≤ n) (h1 : n ≤ 99) (hl : x.length ≤ 100) : asn1_appendTwoDigits.f x n = some (x ++ D n) ∧ spec_two.f x n = some (x ++ D n) := by
  have e1 : Int.tdiv n 10 = n / 10 := Int.tdiv_eq_ediv_of_nonneg h0
  have e2 : Int.tmod n 10 = n % 10 := Int.tmod_eq_emod_of_nonneg h0
  have w1 : wrap64 (n / 10) = n / 10 := by unfold wrap64; omega
  have e3 : Int.tmod (n / 10) 10 = n / 10 := by rw [Int.tmod_eq_emod_of_nonneg (by omega)]; omega
  have w2 : wrap64 (48 + n / 10) % 256 = 48 + n / 10 := by unfold wrap64; omega
  have w3 : wrap64 (48 + n % 10) % 256 = 48 + n % 10 := by unfold wrap64; omega
  constructor
  · unfold asn1_appendTwoDigits.f
    rw [e1, e2, w1, e3, w2, w3]
    simp only [Option.bind_some]
    rw [if_pos (by simp; omega)]
    rfl
  · unfold spec_two.f
    rw [e1, e2, w1, w2, w3]
    simp only [Option.bind_some]
    rw [if_pos (by simp; omega)]
    rfl
theorem D_len (n : Int) : (D n).length = 2 := rfl
theorem Zn_len (a : Int) : (Zn a).length ≤ 5 := by
  unfold Zn
  repeat' split
  all_goals simp [D_len]
def okT (mo d h mi s a : Int) : Prop := 0 ≤ mo ∧ mo ≤ 99 ∧ 0 ≤ d ∧ d ≤ 99 ∧ 0 ≤ h ∧ h ≤ 99 ∧ 0 ≤ mi ∧ mi ≤ 99 ∧ 0 ≤ s ∧ s ≤ 99 ∧ -1440 < a ∧ a < 1440
theorem common_eq (k : Nat) (x : List Int) (y mo d h mi s na a : Int) (ht : okT mo d h mi s a) (hl : x.length ≤ 20) : asn1_appendTimeCommon.f (k + 1) x y mo d h mi s na a = some (x ++ OutB mo d h mi s a) := by
  obtain ⟨m0, m1, d0, d1', h0, h1, i0, i1, s0, s1, a0, a1⟩ := ht
  unfold asn1_appendTimeCommon.f
  rw [(D_two x mo m0 m1 (by omega)).1]
  simp only [Option.bind_some]
  rw [(D_two _ d d0 d1' (by simp [D_len]; omega)).1]
  simp only [Option.bind_some]
  rw [(D_two _ h h0 h1 (by simp [D_len]; omega)).1]
  simp only [Option.bind_some]
  rw [(D_two _ mi i0 i1 (by simp [D_len]; omega)).1]
  simp only [Option.bind_some]
  rw [(D_two _ s s0 s1 (by simp [D_len]; omega)).1]
  simp only [Option.bind_some]
  have w60 : wrap64 (a * 60) = a * 60 := by unfold wrap64; omega
  have q60 : Int.tdiv (a * 60) 60 = a := Int.mul_tdiv_cancel a (by decide)
  have wa : wrap64 a = a := by unfold wrap64; omega
  rw [w60, q60, wa]
  by_cases z : a = 0
  · rw [if_pos z, if_pos (by simp [D_len]; omega)]
    simp [OutB, Zn, z]
  rw [if_neg z]
  by_cases p : 0 < a
  · rw [if_pos (by omega), if_pos (by simp [D_len]; omega)]
    simp only [asn1_appendTimeCommon.j0]
    rw [q60, wa, if_neg (by omega)]
    rw [show wrap64 (Int.tdiv a 60) = a / 60 by rw [Int.tdiv_eq_ediv_of_nonneg (by omega)]; unfold wrap64; omega, show Int.tmod a 60 = a % 60 from Int.tmod_eq_emod_of_nonneg (by omega)]
    rw [(D_two _ (a / 60) (by omega) (by omega) (by simp [D_len]; omega)).1]
    simp only [Option.bind_some]
    rw [(D_two _ (a % 60) (by omega) (by omega) (by simp [D_len]; omega)).1]
    simp [OutB, Zn, z, p]
  · rw [if_neg (by omega), if_pos (by omega), if_pos (by simp [D_len]; omega)]
    simp only [asn1_appendTimeCommon.j0]
    rw [q60, wa, if_pos (by omega), show wrap64 (-a) = -a by unfold wrap64; omega]
    rw [show wrap64 (Int.tdiv (-a) 60) = -a / 60 by rw [Int.tdiv_eq_ediv_of_nonneg (by omega)]; unfold wrap64; omega, show Int.tmod (-a) 60 = -a % 60 from Int.tmod_eq_emod_of_nonneg (by omega)]
    rw [(D_two _ (-a / 60) (by omega) (by omega) (by simp [D_len]; omega)).1]
    simp only [Option.bind_some]
    rw [(D_two _ (-a % 60) (by omega) (by omega) (by simp [D_len]; omega)).1]
    simp [OutB, Zn, z, p]
theorem behind_step (k : Nat) (x q : List Int) (i y mo d h mi s na a v : Int) (hi : 0 ≤ i) (hq : i < 5) (h5 : q.length = 5) (hv : rd q i = v) (v0 : 0 ≤ v) (v1 : v ≤ 99) (hl : x.length ≤ 90) :
    spec_Clock_behind.l0 (k + 1) x q 5 i y mo d h mi s na a = spec_Clock_behind.l0 k (x ++ D v) q 5 (i + 1) y mo d h mi s na a := by
  conv => lhs; simp only [spec_Clock_behind.l0]
  rw [if_pos hq, if_pos hi, if_pos (by omega), hv, (D_two x v v0 v1 (by omega)).2]
  simp only [Option.bind_some]
  rw [show wrap64 (i + 1) = i + 1 by unfold wrap64; omega]
theorem behind_eq (k : Nat) (x : List Int) (y mo d h mi s na a : Int) (ht : okT mo d h mi s a) (hl : x.length ≤ 20) : spec_Clock_behind.f (k + 6) y mo d h mi s na a x = some (x ++ OutB mo d h mi s a) := by
  obtain ⟨m0, m1, d0, d1', h0, h1, i0, i1, s0, s1, a0, a1⟩ := ht
  unfold spec_Clock_behind.f
  simp only [Option.bind_some]
  rw [show (([mo, d, h, mi, s] : List Int).length : Int) = 5 from rfl]
  rw [behind_step _ _ _ 0 y mo d h mi s na a mo (by omega) (by omega) rfl rfl m0 m1 (by omega)]
  rw [behind_step _ _ _ (0 + 1) y mo d h mi s na a d (by omega) (by omega) rfl rfl d0 d1' (by simp [D_len]; omega)]
  rw [behind_step _ _ _ (0 + 1 + 1) y mo d h mi s na a h (by omega) (by omega) rfl rfl h0 h1 (by simp [D_len]; omega)]
  rw [behind_step _ _ _ (0 + 1 + 1 + 1) y mo d h mi s na a mi (by omega) (by omega) rfl rfl i0 i1 (by simp [D_len]; omega)]
  rw [behind_step _ _ _ (0 + 1 + 1 + 1 + 1) y mo d h mi s na a s (by omega) (by omega) rfl rfl s0 s1 (by simp [D_len]; omega)]
  simp only [spec_Clock_behind.l0]
  rw [if_neg (by omega)]
  by_cases z : a = 0
  · rw [if_pos z, if_pos (by simp [D_len]; omega)]
    simp [OutB, Zn, z]
  rw [if_neg z]
  by_cases p : 0 < a
  · rw [if_neg (by omega), if_pos (by simp [D_len]; omega)]
    rw [show wrap64 (Int.tdiv a 60) = a / 60 by rw [Int.tdiv_eq_ediv_of_nonneg (by omega)]; unfold wrap64; omega, show Int.tmod a 60 = a % 60 from Int.tmod_eq_emod_of_nonneg (by omega)]
    rw [(D_two _ (a / 60) (by omega) (by omega) (by simp [D_len]; omega)).2]
    simp only [Option.bind_some]
    rw [(D_two _ (a % 60) (by omega) (by omega) (by simp [D_len]; omega)).2]
    simp [OutB, Zn, z, p]
  · rw [if_pos (by omega), if_pos (by simp [D_len]; omega), show wrap64 (-a) = -a by unfold wrap64; omega]
    rw [show wrap64 (Int.tdiv (-a) 60) = -a / 60 by rw [Int.tdiv_eq_ediv_of_nonneg (by omega)]; unfold wrap64; omega, show Int.tmod (-a) 60 = -a % 60 from Int.tmod_eq_emod_of_nonneg (by omega)]
    rw [(D_two _ (-a / 60) (by omega) (by omega) (by simp [D_len]; omega)).2]
    simp only [Option.bind_some]
    rw [(D_two _ (-a % 60) (by omega) (by omega) (by simp [D_len]; omega)).2]
    simp [OutB, Zn, z, p]
/-! Reading what was written. -/
theorem rd_D0 (n : Int) (r : List Int) : rd (D n ++ r) 0 = 48 + n / 10 := rfl
theorem rd_D1 (n : Int) (r : List Int) : rd (D n ++ r) 1 = 48 + n % 10 := rfl
theorem l2_D {n : Int} (h0 : 0 ≤ n) (h1 : n ≤ 99) (r : List Int) : l2 (D n ++ r) = true ∧ lv (D n ++ r) = n := by
  constructor
  · unfold l2 l1
    rw [rd_D0, rd_D1, decide_eq_true (show 2 ≤ (D n ++ r).length by simp [D_len]), decide_eq_true (show 48 ≤ 48 + n / 10 by omega), decide_eq_true (show 48 + n / 10 ≤ 57 by omega), decide_eq_true (show 48 ≤ 48 + n % 10 by omega), decide_eq_true (show 48 + n % 10 ≤ 57 by omega)]
    rfl
  · unfold lv
    rw [rd_D0, rd_D1]
    omega
theorem bytes_D {n : Int} (h0 : 0 ≤ n) (h1 : n ≤ 99) {r : List Int} (hr : bytesIn r) : bytesIn (D n ++ r) := by
  intro x hx
  simp only [D, List.cons_append, List.nil_append, List.mem_cons] at hx
  rcases hx with rfl | rfl | hx
  · omega
  · omega
  · exact hr x hx
theorem bytes_cons {c : Int} (h0 : 0 ≤ c) (h1 : c ≤ 255) {r : List Int} (hr : bytesIn r) : bytesIn (c :: r) := by
  intro x hx
  rcases List.mem_cons.1 hx with rfl | hx
  · omega
  · exact hr x hx
theorem bytes_nil : bytesIn [] := fun x hx => by cases hx
theorem Zn_bytes {a : Int} (a0 : -1440 < a) (a1 : a < 1440) : bytesIn (Zn a) := by
  unfold Zn
  have e : ∀ n : Int, 0 ≤ n → n ≤ 99 → bytesIn (D n) := fun n h0 h1 => by simpa using bytes_D h0 h1 bytes_nil
  split
  · exact bytes_cons (by omega) (by omega) bytes_nil
  · split
    · exact bytes_cons (by omega) (by omega) (bytes_D (by omega) (by omega) (e _ (by omega) (by omega)))
    · exact bytes_cons (by omega) (by omega) (bytes_D (by omega) (by omega) (e _ (by omega) (by omega)))
theorem Zn_reads {a : Int} (a0 : -1440 < a) (a1 : a < 1440) : lzOk (Zn a) = true ∧ lzV (Zn a) = a := by
  have key : ∀ c n : Int, (c = 43 ∨ c = 45) → 0 < n → n < 1440 → lzOk (c :: (D (n / 60) ++ D (n % 60))) = true ∧ lv ((c :: (D (n / 60) ++ D (n % 60))).drop 1) * 60 + lv ((c :: (D (n / 60) ++ D (n % 60))).drop 3) = n := by
    intro c n hc h0 h1
    have e1 : (c :: (D (n / 60) ++ D (n % 60))).drop 1 = D (n / 60) ++ D (n % 60) := rfl
    have e3 : (c :: (D (n / 60) ++ D (n % 60))).drop 3 = D (n % 60) ++ [] := rfl
    have p1 := l2_D (n := n / 60) (by omega) (by omega) (D (n % 60))
    have p2 := l2_D (n := n % 60) (by omega) (by omega) []
    unfold lzOk
    rw [e1, e3, p1.1, p1.2, p2.1, p2.2]
    have ev : n / 60 * 60 + n % 60 = n := by omega
    rw [ev, decide_eq_true (show (c :: (D (n / 60) ++ D (n % 60))).length = 5 from rfl), decide_eq_true (show n / 60 ≤ 24 by omega), decide_eq_true (show n % 60 ≤ 59 by omega), beq_eq_false_iff_ne.mpr (show n ≠ 0 by omega)]
    have e0 : rd (c :: (D (n / 60) ++ D (n % 60))) 0 = c := rfl
    rw [e0]
    rcases hc with rfl | rfl <;> simp
  unfold Zn
  by_cases z : a = 0
  · rw [if_pos z, z]
    exact ⟨rfl, rfl⟩
  rw [if_neg z]
  by_cases p : 0 < a
  · rw [if_pos p]
    obtain ⟨k1, k2⟩ := key 43 a (.inl rfl) p a1
    refine ⟨k1, ?_⟩
    unfold lzV
    rw [if_neg (by intro h; have := congrArg List.length h; simp [D_len] at this), if_pos k1, if_neg (show ¬ rd (43 :: (D (a / 60) ++ D (a % 60))) 0 = 45 from by show ¬ (43 : Int) = 45; decide), k2]
  · rw [if_neg p]
    obtain ⟨k1, k2⟩ := key 45 (-a) (.inr rfl) (by omega) (by omega)
    refine ⟨k1, ?_⟩
    unfold lzV
    rw [if_neg (by intro h; have := congrArg List.length h; simp [D_len] at this), if_pos k1, if_pos (show rd (45 :: (D (-a / 60) ++ D (-a % 60))) 0 = 45 from rfl), k2]
    omega
theorem OutB_bytes {mo d h mi s a : Int} (ht : okT mo d h mi s a) : bytesIn (OutB mo d h mi s a) := by
  obtain ⟨m0, m1, d0, d1', h0, h1, i0, i1, s0, s1, a0, a1⟩ := ht
  exact bytes_D m0 m1 (bytes_D d0 d1' (bytes_D h0 h1 (bytes_D i0 i1 (bytes_D s0 s1 (Zn_bytes a0 a1)))))
theorem bytes_same (x : List Int) : bytes_Equal.f x x = some true := by simp [bytes_Equal.f]
theorem D_drop (n : Int) (r : List Int) (k : Nat) : (D n ++ r).drop (k + 2) = r.drop k := rfl
theorem right_okT {y mo d h mi s na a : Int} (hr : rightB y mo d h mi s na a = true) : okT mo d h mi s a ∧ 1 ≤ mo ∧ mo ≤ 12 ∧ 1 ≤ d ∧ d ≤ daysI y mo ∧ h < 24 ∧ mi < 60 ∧ s < 60 ∧ 0 ≤ y ∧ y ≤ 9999 := by
  have dl : daysI y mo ≤ 31 := by unfold daysI; repeat' split <;> omega
  simp only [rightB, Bool.and_eq_true, decide_eq_true_eq] at hr
  unfold okT
  omega
theorem dated_of {y mo d h mi s na a : Int} (hr : rightB y mo d h mi s na a = true) : datedB y mo d h mi s na a = true := by
  simp only [rightB, Bool.and_eq_true, decide_eq_true_eq] at hr
  simp only [datedB, Bool.and_eq_true, decide_eq_true_eq]
  omega
def F4 (y : Int) : List Int := D (y / 100) ++ D (y % 100)
theorem F4_rd (y : Int) (r : List Int) : rd (F4 y ++ r) 0 = 48 + y / 100 / 10 ∧ rd (F4 y ++ r) 1 = 48 + y / 100 % 10 ∧ rd (F4 y ++ r) 2 = 48 + y % 100 / 10 ∧ rd (F4 y ++ r) 3 = 48 + y % 100 % 10 := ⟨rfl, rfl, rfl, rfl⟩
theorem l4_F {y : Int} (h0 : 0 ≤ y) (h1 : y ≤ 9999) (r : List Int) : l4 (F4 y ++ r) = true ∧ lv4 (F4 y ++ r) = y := by
  obtain ⟨r0, r1, r2, r3⟩ := F4_rd y r
  constructor
  · unfold l4 l1
    rw [r0, r1, r2, r3]
    simp only [Bool.and_eq_true, decide_eq_true_eq]
    refine ⟨⟨⟨⟨?_, ?_⟩, ?_⟩, ?_⟩, ?_⟩
    · simp [F4, D]
    all_goals omega
  · unfold lv4
    rw [r0, r1, r2, r3]
    omega
theorem bytes_F {y : Int} (h0 : 0 ≤ y) (h1 : y ≤ 9999) {r : List Int} (hr : bytesIn r) : bytesIn (F4 y ++ r) := by
  unfold F4
  rw [List.append_assoc]
  exact bytes_D (by omega) (by omega) (bytes_D (by omega) (by omega) hr)
theorem Zn_point (a : Int) (h : bytesIn (Zn a)) : gP (strOfNums (Zn a)) = false := by
  unfold gP
  rw [strOfNums_size, bt_str h]
  unfold Zn
  repeat' split
  · rfl
  · rw [show rd (43 :: (D (a / 60) ++ D (a % 60))) 0 = 43 from rfl]; simp
  · rw [show rd (45 :: (D (-a / 60) ++ D (-a % 60))) 0 = 45 from rfl]; simp
/-- The package reads what it wrote. -/
theorem read_gen {y mo d h mi s na a : Int} (hr : rightB y mo d h mi s na a = true) : impl_ReadGeneralized.f (F4 y ++ OutB mo d h mi s a) = some (y, mo, d, h, mi, s, 0, a, true) := by
  obtain ⟨ht, b1, b2, b3, b4, b5, b6, b7, y0, y1⟩ := right_okT hr
  have hb := bytes_F y0 y1 (OutB_bytes ht)
  obtain ⟨m0, m1, d0, d1', h0, h1, i0, i1, s0, s1, a0, a1⟩ := ht
  obtain ⟨e1, e2, e3, e4, e5, e6⟩ := @drg_str (F4 y ++ OutB mo d h mi s a)
  have k1 : (F4 y ++ OutB mo d h mi s a).drop 4 = D mo ++ (D d ++ (D h ++ (D mi ++ (D s ++ Zn a)))) := rfl
  have k2 : (F4 y ++ OutB mo d h mi s a).drop 6 = D d ++ (D h ++ (D mi ++ (D s ++ Zn a))) := rfl
  have k3 : (F4 y ++ OutB mo d h mi s a).drop 8 = D h ++ (D mi ++ (D s ++ Zn a)) := rfl
  have k4 : (F4 y ++ OutB mo d h mi s a).drop 10 = D mi ++ (D s ++ Zn a) := rfl
  have k5 : (F4 y ++ OutB mo d h mi s a).drop 12 = D s ++ Zn a := rfl
  have k6 : (F4 y ++ OutB mo d h mi s a).drop 14 = Zn a := rfl
  have q0 := l4_F y0 y1 (OutB mo d h mi s a)
  have q1 := l2_D m0 m1 (D d ++ (D h ++ (D mi ++ (D s ++ Zn a))))
  have q2 := l2_D d0 d1' (D h ++ (D mi ++ (D s ++ Zn a)))
  have q3 := l2_D h0 h1 (D mi ++ (D s ++ Zn a))
  have q4 := l2_D i0 i1 (D s ++ Zn a)
  have q5 := l2_D s0 s1 (Zn a)
  have zr := Zn_reads a0 a1
  have hbZ := Zn_bytes a0 a1
  have hsix : six (F4 y ++ OutB mo d h mi s a) = true := by
    unfold six
    rw [k1, k2, k3, k4, k5, q0.1, q1.1, q2.1, q3.1, q4.1, q5.1]
    rfl
  have hp : gP (gR5 (strOfNums (F4 y ++ OutB mo d h mi s a))) = false := by rw [e6, k6, Zn_point a hbZ]
  have hnp : ¬ gP (gR5 (strOfNums (F4 y ++ OutB mo d h mi s a))) = true := by rw [hp]; decide
  have hR : gRst (strOfNums (F4 y ++ OutB mo d h mi s a)) = strOfNums (Zn a) := by unfold gRst; rw [if_neg hnp, e6, k6]
  have hna : gNa (strOfNums (F4 y ++ OutB mo d h mi s a)) = 0 := by unfold gNa; rw [if_neg hnp]
  have v4 : dv2 (strOfNums ((F4 y ++ OutB mo d h mi s a).drop 4)) = mo := by rw [dv2_str (bytesIn_d hb 4), k1, q1.2]
  have v6 : dv2 (strOfNums ((F4 y ++ OutB mo d h mi s a).drop 6)) = d := by rw [dv2_str (bytesIn_d hb 6), k2, q2.2]
  have v8 : dv2 (strOfNums ((F4 y ++ OutB mo d h mi s a).drop 8)) = h := by rw [dv2_str (bytesIn_d hb 8), k3, q3.2]
  have v10 : dv2 (strOfNums ((F4 y ++ OutB mo d h mi s a).drop 10)) = mi := by rw [dv2_str (bytesIn_d hb 10), k4, q4.2]
  have v12 : dv2 (strOfNums ((F4 y ++ OutB mo d h mi s a).drop 12)) = s := by rw [dv2_str (bytesIn_d hb 12), k5, q5.2]
  have ok : gOk (strOfNums (F4 y ++ OutB mo d h mi s a)) = true := by
    have hr0 : rightB (lv4 (F4 y ++ OutB mo d h mi s a)) (lv ((F4 y ++ OutB mo d h mi s a).drop 4)) (lv ((F4 y ++ OutB mo d h mi s a).drop 6)) (lv ((F4 y ++ OutB mo d h mi s a).drop 8)) (lv ((F4 y ++ OutB mo d h mi s a).drop 10)) (lv ((F4 y ++ OutB mo d h mi s a).drop 12)) 0 0 = true := by
      rw [k1, k2, k3, k4, k5, q0.2, q1.2, q2.2, q3.2, q4.2, q5.2]
      simp only [rightB, Bool.and_eq_true, decide_eq_true_eq] at hr ⊢
      omega
    have hg := gB_str hb hsix 0 (by omega)
    rw [hr0] at hg
    have hd := gD_str hb
    rw [hsix] at hd
    simp only [Bool.and_eq_true] at hd hg
    unfold gOk
    rw [hd.1.1, hd.1.2, hd.2, hg.1, hg.2, hp, hR, zO_str hbZ, zr.1]
    rfl
  unfold impl_ReadGeneralized.f
  rw [if_pos (by have := Zn_len a; simp [F4, D_len, OutB]; omega), if_pos ok, hR, hna, zV_str hbZ, zr.2, e5, v12, e4, v10, e3, v8, e2, v6, e1, v4, dv4_str hb, q0.2]
theorem putGen (k : Nat) {y mo d h mi s na a : Int} (hr : rightB y mo d h mi s na a = true) : impl_PutGeneralized.f (k + 4) y mo d h mi s na a = some (F4 y ++ OutB mo d h mi s a, true) := by
  obtain ⟨ht, -, -, -, -, -, -, -, y0, y1⟩ := right_okT hr
  unfold impl_PutGeneralized.f
  rw [if_pos (dated_of hr)]
  have e : asn1_ZZPutGeneralized.f (k + 4) y mo d h mi s na a = some (F4 y ++ OutB mo d h mi s a, none) := by
    unfold asn1_ZZPutGeneralized.f asn1_appendGeneralizedTime.f
    rw [if_neg (by omega), decide_eq_false (by omega)]
    simp only [asn1_appendGeneralizedTime.j0]
    rw [if_neg (by decide)]
    have e4 : asn1_appendFourDigits.f [] y = some (F4 y) := by
      unfold asn1_appendFourDigits.f
      rw [Int.tdiv_eq_ediv_of_nonneg y0, Int.tdiv_eq_ediv_of_nonneg y0, Int.tdiv_eq_ediv_of_nonneg y0, Int.tmod_eq_emod_of_nonneg y0]
      rw [show wrap64 (y / 1000) = y / 1000 by unfold wrap64; omega, show wrap64 (y / 100) = y / 100 by unfold wrap64; omega, show wrap64 (y / 10) = y / 10 by unfold wrap64; omega]
      rw [Int.tmod_eq_emod_of_nonneg (show 0 ≤ y / 1000 by omega), Int.tmod_eq_emod_of_nonneg (show 0 ≤ y / 100 by omega), Int.tmod_eq_emod_of_nonneg (show 0 ≤ y / 10 by omega)]
      rw [show wrap64 (48 + y / 1000 % 10) % 256 = 48 + y / 100 / 10 by unfold wrap64; omega, show wrap64 (48 + y / 100 % 10) % 256 = 48 + y / 100 % 10 by unfold wrap64; omega, show wrap64 (48 + y / 10 % 10) % 256 = 48 + y % 100 / 10 by unfold wrap64; omega, show wrap64 (48 + y % 10) % 256 = 48 + y % 100 % 10 by unfold wrap64; omega]
      simp only [Option.bind_some]
      rw [if_pos (by simp)]
      rfl
    rw [e4]
    simp only [Option.bind_some]
    rw [common_eq (k + 2) (F4 y) y mo d h mi s na a ht (by simp [F4, D_len])]
    rfl
  rw [e]
  rfl
theorem specGen (k : Nat) {y mo d h mi s na a : Int} (hr : rightB y mo d h mi s na a = true) : spec_PutGeneralized.f (k + 6) y mo d h mi s na a = some (F4 y ++ OutB mo d h mi s a) := by
  obtain ⟨ht, -, -, -, -, -, -, -, y0, y1⟩ := right_okT hr
  unfold spec_PutGeneralized.f
  rw [Int.tmod_eq_emod_of_nonneg y0, Int.tdiv_eq_ediv_of_nonneg y0, show wrap64 (y / 100) = y / 100 by unfold wrap64; omega, (D_two [] (y / 100) (by omega) (by omega) (by simp)).2]
  simp only [Option.bind_some, List.nil_append]
  rw [(D_two (D (y / 100)) (y % 100) (by omega) (by omega) (by simp [D_len])).2]
  simp only [Option.bind_some]
  rw [show D (y / 100) ++ D (y % 100) = F4 y from rfl, behind_eq k (F4 y) y mo d h mi s na a ht (by simp [F4, D_len])]
  rfl
theorem pure_ (y mo d h mi s na a : Int) : laws_FnPutGeneralized.f 10 y mo d h mi s na a = some true := by
  unfold laws_FnPutGeneralized.f laws_right.f spec_Clock_Right.f
  simp only [Option.bind_some]
  cases hr : rightB y mo d h mi s na a with
  | false => rfl
  | true =>
    rw [if_pos rfl, putGen 6 hr]
    simp only [Option.bind_some]
    rw [read_gen hr]
    simp only [Option.bind_some]
    rw [if_pos trivial, specGen 4 hr]
    simp only [Option.bind_some]
    rw [bytes_same]
    simp
end Go.Proofs.Ytmiemfgcggkbnaa.PureG
