/- Plain facts: a time of the years 1950 to 2049 is written as UTCTime by the package as by the reference, and read as it was. No memory and no walk. -/
import Derived.Test.YtmiemfgcggkbnaaQP1x3
import Derived.Test.YtmiemfgcggkbnaaQP1x4
import Derived.Test.YtmiemfgcggkbnaaQP1x5
import Derived.Test.YtmiemfgcggkbnaaQP1x7
import Derived.Test.YtmiemfgcggkbnaaQP1x8
import Derived.Test.YtmiemfgcggkbnaaQP1x9
import Derived.Test.YtmiemfgcggkbnaaQP1x10
set_option linter.unusedSimpArgs false
set_option linter.unusedVariables false
namespace Go.Proofs.Ytmiemfgcggkbnaa.PureP
open Go.RowKit Go.Proofs.Ytmiemfgcggkbnaa.QP1 Go.Proofs.YtmiemfgcggkbnaaW.PrintWords Go.Proofs.YtmiemfgcggkbnaaW.PrintLast
def bytesIn (l : List Int) : Prop := ∀ x, x ∈ l → 0 ≤ x ∧ x ≤ 255
theorem bt_str {l : List Int} (hb : bytesIn l) (i : Int) : bt (strOfNums l) i = rd l i := by
  unfold bt rd
  have hsz := strOfNums_size l
  by_cases h : i.toNat < l.length
  · rw [dif_pos (by rw [hsz]; exact h), List.getD_eq_getElem?_getD, List.getElem?_eq_getElem h]
    have hx := hb _ (List.getElem_mem h)
    have : (strOfNums l)[i.toNat]'(by rw [hsz]; exact h) = UInt8.ofNat (l[i.toNat]).toNat := by
      rw [ByteArray.getElem_eq_getElem_data]
      simp [strOfNums]
    rw [this]
    simp only [Option.getD_some]
    rw [UInt8.toNat_ofNat']
    omega
  · rw [dif_neg (by rw [hsz]; exact h), List.getD_eq_getElem?_getD, List.getElem?_eq_none (by omega)]
    rfl
theorem ext_str (l : List Int) (n : Nat) : (strOfNums l).extract n (strOfNums l).size = strOfNums (l.drop n) := by
  apply ByteArray.ext
  rw [ByteArray.data_extract]
  apply Array.ext'
  rw [strOfNums_size]
  show ((l.map fun n => UInt8.ofNat n.toNat).toArray.extract n l.length).toList = _
  rw [strOfNums_data]
  simp
  rw [List.take_of_length_le (by simp)]
theorem toList_str (l : List Int) : (strOfNums l).toList = l.map fun n => UInt8.ofNat n.toNat := by
  unfold strOfNums
  rw [show (ByteArray.mk (l.map fun n => UInt8.ofNat n.toNat).toArray) = ByteArray.mk ⟨l.map fun n => UInt8.ofNat n.toNat⟩ from rfl, ByteArray.toList_mk]
theorem list90 {l : List Int} (hb : bytesIn l) : (strOfNums l).toList = ([90] : List UInt8) ↔ l = [90] := by
  rw [toList_str]
  constructor
  · intro h
    match l, h with
    | [], h => cases h
    | [x], h =>
      simp only [List.map_cons, List.map_nil, List.cons.injEq, and_true] at h
      have hx := hb x (by simp)
      have := congrArg UInt8.toNat h
      rw [UInt8.toNat_ofNat'] at this
      have h90 : (90 : UInt8).toNat = 90 := rfl
      rw [h90] at this
      have : x = 90 := by omega
      rw [this]
    | _ :: _ :: _, h => simp at h
  · rintro rfl
    rfl
/-- Two figures at the front. -/
def l1 (l : List Int) (i : Int) : Bool := decide (48 ≤ rd l i) && decide (rd l i ≤ 57)
def l2 (l : List Int) : Bool := decide (2 ≤ l.length) && l1 l 0 && l1 l 1
def lv (l : List Int) : Int := 10 * (rd l 0 - 48) + (rd l 1 - 48)
theorem dg2_str {l : List Int} (hb : bytesIn l) : dg2 (strOfNums l) = l2 l := by
  unfold dg2 l2 d1 l1
  rw [strOfNums_size, bt_str hb, bt_str hb]
theorem dv2_str {l : List Int} (hb : bytesIn l) : dv2 (strOfNums l) = lv l := by
  unfold dv2 lv
  rw [bt_str hb, bt_str hb]
theorem dr2_str (l : List Int) : dr2 (strOfNums l) = strOfNums (l.drop 2) := ext_str l 2
theorem lv_range {l : List Int} (h : l2 l = true) : 0 ≤ lv l ∧ lv l ≤ 99 := by
  simp only [l2, l1, Bool.and_eq_true, decide_eq_true_eq] at h
  unfold lv
  omega
theorem bytesIn_d {l : List Int} (h : bytesIn l) (n : Nat) : bytesIn (l.drop n) := fun x hx => h x (List.mem_of_mem_drop hx)
/-- A zone, read by the package: Z, or a sign and hours (to 24) and minutes, not all 0. -/
def lzOk (l : List Int) : Bool := decide (l = [90]) || (decide (l.length = 5) && (rd l 0 == 43 || rd l 0 == 45) && l2 (l.drop 1) && l2 (l.drop 3) && decide (lv (l.drop 1) ≤ 24) && decide (lv (l.drop 3) ≤ 59) && !(lv (l.drop 1) * 60 + lv (l.drop 3) == 0))
def lzV (l : List Int) : Int := if l = [90] then 0 else if lzOk l = true then (if rd l 0 = 45 then -(lv (l.drop 1) * 60 + lv (l.drop 3)) else lv (l.drop 1) * 60 + lv (l.drop 3)) else 0
theorem zO_str {l : List Int} (hb : bytesIn l) : zO (strOfNums l) = lzOk l := by
  unfold zO lzOk zN
  rw [ext_str l 1, dr2_str, List.drop_drop, strOfNums_size, bt_str hb, dg2_str (bytesIn_d hb _), dg2_str (bytesIn_d hb _), dv2_str (bytesIn_d hb _), dv2_str (bytesIn_d hb _)]
  have : ((strOfNums l).toList == ([90] : List UInt8)) = decide (l = [90]) := by
    rw [Bool.eq_iff_iff, beq_iff_eq, decide_eq_true_eq]
    exact list90 hb
  rw [this]
theorem zV_str {l : List Int} (hb : bytesIn l) : zV (strOfNums l) = lzV l := by
  unfold zV lzV zN
  rw [zO_str hb, ext_str l 1, dr2_str, List.drop_drop, bt_str hb, dv2_str (bytesIn_d hb _), dv2_str (bytesIn_d hb _)]
  by_cases h : l = [90]
  · rw [if_pos ((list90 hb).2 h), if_pos h]
  · rw [if_neg (fun h' => h ((list90 hb).1 h')), if_neg h]
theorem days_100 (v m : Int) (h1 : 50 ≤ v) (h2 : v ≤ 68) : daysI (v + 2000) m = daysI (v + 1900) m := by
  have e1 : (Int.tmod (v + 2000) 4 = 0) = (Int.tmod (v + 1900) 4 = 0) := by
    rw [Int.tmod_eq_emod_of_nonneg (by omega), Int.tmod_eq_emod_of_nonneg (by omega)]
    exact propext ⟨fun h => by omega, fun h => by omega⟩
  have e2 : ¬ Int.tmod (v + 2000) 100 = 0 := by
    rw [Int.tmod_eq_emod_of_nonneg (by omega)]; omega
  have e3 : ¬ Int.tmod (v + 1900) 100 = 0 := by
    rw [Int.tmod_eq_emod_of_nonneg (by omega)]; omega
  unfold daysI
  rw [if_neg e2, if_neg e3]
  simp only [e1]
/-- All five pairs of figures. -/
def five (l : List Int) : Bool := l2 l && l2 (l.drop 2) && l2 (l.drop 4) && l2 (l.drop 6) && l2 (l.drop 8)
theorem five_of {l : List Int} (h : five l = true) : l2 l = true ∧ l2 (l.drop 2) = true ∧ l2 (l.drop 4) = true ∧ l2 (l.drop 6) = true ∧ l2 (l.drop 8) = true := by
  simp only [five, Bool.and_eq_true] at h
  exact ⟨h.1.1.1.1, h.1.1.1.2, h.1.1.2, h.1.2, h.2⟩
theorem dr_str {l : List Int} : dr2 (strOfNums l) = strOfNums (l.drop 2) ∧ dr2 (dr2 (strOfNums l)) = strOfNums (l.drop 4) ∧ dr2 (dr2 (dr2 (strOfNums l))) = strOfNums (l.drop 6) ∧ dr2 (dr2 (dr2 (dr2 (strOfNums l)))) = strOfNums (l.drop 8) ∧ dr2 (dr2 (dr2 (dr2 (dr2 (strOfNums l))))) = strOfNums (l.drop 10) := by
  have e1 := dr2_str l
  have e2 : dr2 (dr2 (strOfNums l)) = strOfNums (l.drop 4) := by rw [e1, dr2_str, List.drop_drop]
  have e3 : dr2 (dr2 (dr2 (strOfNums l))) = strOfNums (l.drop 6) := by rw [e2, dr2_str, List.drop_drop]
  have e4 : dr2 (dr2 (dr2 (dr2 (strOfNums l)))) = strOfNums (l.drop 8) := by rw [e3, dr2_str, List.drop_drop]
  have e5 : dr2 (dr2 (dr2 (dr2 (dr2 (strOfNums l))))) = strOfNums (l.drop 10) := by rw [e4, dr2_str, List.drop_drop]
  exact ⟨e1, e2, e3, e4, e5⟩
theorem uD_str {l : List Int} (hb : bytesIn l) : (dg2 (strOfNums l) && uD (strOfNums l)) = five l := by
  obtain ⟨e1, e2, e3, e4, e5⟩ := @dr_str l
  unfold uD five
  rw [e4, e3, e2, e1, dg2_str hb, dg2_str (bytesIn_d hb _), dg2_str (bytesIn_d hb _), dg2_str (bytesIn_d hb _), dg2_str (bytesIn_d hb _)]
  cases l2 l <;> cases l2 (l.drop 2) <;> cases l2 (l.drop 4) <;> cases l2 (l.drop 6) <;> cases l2 (l.drop 8) <;> rfl
/-- Two figures. -/
def D (n : Int) : List Int := [48 + n / 10, 48 + n % 10]
def Zn (a : Int) : List Int := if a = 0 then [90] else if 0 < a then 43 :: (D (a / 60) ++ D (a % 60)) else 45 :: (D (-a / 60) ++ D (-a % 60))
def OutB (mo d h mi s a : Int) : List Int := D mo ++ (D d ++ (D h ++ (D mi ++ (D s ++ Zn a))))
theorem D_two (x : List Int) (n : Int) (h0 : 0 ≤ n) (h1 : n ≤ 99) (hl : x.length ≤ 100) : asn1_appendTwoDigits.f x n = some (x ++ D n) ∧ spec_two.f x n = some (x ++ D n) := by
  have e1 : Int.tdiv n 10 = n / 10 := Int.tdiv_eq_ediv_of_nonneg h0
  have e2 : Int.tmod n 10 = n % 10 := Int.tmod_eq_emod_of_nonneg h0
  have w1 : wrap64 (n / 10) = n / 10 := by unfold wrap64; omega
  have e3 : Int.tmod (n / 10) 10 = n / 10 := by rw [Int.tmod_eq_emod_of_nonneg (by omega)]; omega
  have w2 : wrap64 (48 + n / 10) % 256 = 48 + n / 10 := by unfold wrap64; omega
  have w3 : wrap64 (48 + n % 10) % 256 = 48 + n % 10 := by unfold wrap64; omega
  constructor
  · unfold asn1_appendTwoDigits.f
    rw [e1, e2, w1, e3, w2, w3]
    simp only [Option.bind_some]
    rw [if_pos (by simp; omega)]
    rfl
  · unfold spec_two.f
    rw [e1, e2, w1, w2, w3]
    simp only [Option.bind_some]
    rw [if_pos (by simp; omega)]
    rfl
theorem D_len (n : Int) : (D n).length = 2 := rfl
theorem Zn_len (a : Int) : (Zn a).length ≤ 5 := by
  unfold Zn
  repeat' split
  all_goals simp [D_len]
def okT (mo d h mi s a : Int) : Prop := 0 ≤ mo ∧ mo ≤ 99 ∧ 0 ≤ d ∧ d ≤ 99 ∧ 0 ≤ h ∧ h ≤ 99 ∧ 0 ≤ mi ∧ mi ≤ 99 ∧ 0 ≤ s ∧ s ≤ 99 ∧ -1440 < a ∧ a < 1440
theorem common_eq (k : Nat) (x : List Int) (y mo d h mi s na a : Int) (ht : okT mo d h mi s a) (hl : x.length ≤ 20) : asn1_appendTimeCommon.f (k + 1) x y mo d h mi s na a = some (x ++ OutB mo d h mi s a) := by
  obtain ⟨m0, m1, d0, d1', h0, h1, i0, i1, s0, s1, a0, a1⟩ := ht
  unfold asn1_appendTimeCommon.f
  rw [(D_two x mo m0 m1 (by omega)).1]
  simp only [Option.bind_some]
  rw [(D_two _ d d0 d1' (by simp [D_len]; omega)).1]
  simp only [Option.bind_some]
  rw [(D_two _ h h0 h1 (by simp [D_len]; omega)).1]
  simp only [Option.bind_some]
  rw [(D_two _ mi i0 i1 (by simp [D_len]; omega)).1]
  simp only [Option.bind_some]
  rw [(D_two _ s s0 s1 (by simp [D_len]; omega)).1]
  simp only [Option.bind_some]
  have w60 : wrap64 (a * 60) = a * 60 := by unfold wrap64; omega
  have q60 : Int.tdiv (a * 60) 60 = a := Int.mul_tdiv_cancel a (by decide)
  have wa : wrap64 a = a := by unfold wrap64; omega
  rw [w60, q60, wa]
  by_cases z : a = 0
  · rw [if_pos z, if_pos (by simp [D_len]; omega)]
    simp [OutB, Zn, z]
  rw [if_neg z]
  by_cases p : 0 < a
  · rw [if_pos (by omega), if_pos (by simp [D_len]; omega)]
    simp only [asn1_appendTimeCommon.j0]
    rw [q60, wa, if_neg (by omega)]
    rw [show wrap64 (Int.tdiv a 60) = a / 60 by rw [Int.tdiv_eq_ediv_of_nonneg (by omega)]; unfold wrap64; omega, show Int.tmod a 60 = a % 60 from Int.tmod_eq_emod_of_nonneg (by omega)]
    rw [(D_two _ (a / 60) (by omega) (by omega) (by simp [D_len]; omega)).1]
    simp only [Option.bind_some]
    rw [(D_two _ (a % 60) (by omega) (by omega) (by simp [D_len]; omega)).1]
    simp [OutB, Zn, z, p]
  · rw [if_neg (by omega), if_pos (by omega), if_pos (by simp [D_len]; omega)]
    simp only [asn1_appendTimeCommon.j0]
    rw [q60, wa, if_pos (by omega), show wrap64 (-a) = -a by unfold wrap64; omega]
    rw [show wrap64 (Int.tdiv (-a) 60) = -a / 60 by rw [Int.tdiv_eq_ediv_of_nonneg (by omega)]; unfold wrap64; omega, show Int.tmod (-a) 60 = -a % 60 from Int.tmod_eq_emod_of_nonneg (by omega)]
    rw [(D_two _ (-a / 60) (by omega) (by omega) (by simp [D_len]; omega)).1]
    simp only [Option.bind_some]
    rw [(D_two _ (-a % 60) (by omega) (by omega) (by simp [D_len]; omega)).1]
    simp [OutB, Zn, z, p]
theorem behind_step (k : Nat) (x q : List Int) (i y mo d h mi s na a v : Int) (hi : 0 ≤ i) (hq : i < 5) (h5 : q.length = 5) (hv : rd q i = v) (v0 : 0 ≤ v) (v1 : v ≤ 99) (hl : x.length ≤ 90) :
    spec_Clock_behind.l0 (k + 1) x q 5 i y mo d h mi s na a = spec_Clock_behind.l0 k (x ++ D v) q 5 (i + 1) y mo d h mi s na a := by
  conv => lhs; simp only [spec_Clock_behind.l0]
  rw [if_pos hq, if_pos hi, if_pos (by omega), hv, (D_two x v v0 v1 (by omega)).2]
  simp only [Option.bind_some]
  rw [show wrap64 (i + 1) = i + 1 by unfold wrap64; omega]
theorem behind_eq (k : Nat) (x : List Int) (y mo d h mi s na a : Int) (ht : okT mo d h mi s a) (hl : x.length ≤ 20) : spec_Clock_behind.f (k + 6) y mo d h mi s na a x = some (x ++ OutB mo d h mi s a) := by
  obtain ⟨m0, m1, d0, d1', h0, h1, i0, i1, s0, s1, a0, a1⟩ := ht
  unfold spec_Clock_behind.f
  simp only [Option.bind_some]
  rw [show (([mo, d, h, mi, s] : List Int).length : Int) = 5 from rfl]
  rw [behind_step _ _ _ 0 y mo d h mi s na a mo (by omega) (by omega) rfl rfl m0 m1 (by omega)]
  rw [behind_step _ _ _ (0 + 1) y mo d h mi s na a d (by omega) (by omega) rfl rfl d0 d1' (by simp [D_len]; omega)]
  rw [behind_step _ _ _ (0 + 1 + 1) y mo d h mi s na a h (by omega) (by omega) rfl rfl h0 h1 (by simp [D_len]; omega)]
  rw [behind_step _ _ _ (0 + 1 + 1 + 1) y mo d h mi s na a mi (by omega) (by omega) rfl rfl i0 i1 (by simp [D_len]; omega)]
  rw [behind_step _ _ _ (0 + 1 + 1 + 1 + 1) y mo d h mi s na a s (by omega) (by omega) rfl rfl s0 s1 (by simp [D_len]; omega)]
  simp only [spec_Clock_behind.l0]
  rw [if_neg (by omega)]
  by_cases z : a = 0
  · rw [if_pos z, if_pos (by simp [D_len]; omega)]
    simp [OutB, Zn, z]
  rw [if_neg z]
  by_cases p : 0 < a
  · rw [if_neg (by omega), if_pos (by simp [D_len]; omega)]
    rw [show wrap64 (Int.tdiv a 60) = a / 60 by rw [Int.tdiv_eq_ediv_of_nonneg (by omega)]; unfold wrap64; omega, show Int.tmod a 60 = a % 60 from Int.tmod_eq_emod_of_nonneg (by omega)]
    rw [(D_two _ (a / 60) (by omega) (by omega) (by simp [D_len]; omega)).2]
    simp only [Option.bind_some]
    rw [(D_two _ (a % 60) (by omega) (by omega) (by simp [D_len]; omega)).2]
    simp [OutB, Zn, z, p]
  · rw [if_pos (by omega), if_pos (by simp [D_len]; omega), show wrap64 (-a) = -a by unfold wrap64; omega]
    rw [show wrap64 (Int.tdiv (-a) 60) = -a / 60 by rw [Int.tdiv_eq_ediv_of_nonneg (by omega)]; unfold wrap64; omega, show Int.tmod (-a) 60 = -a % 60 from Int.tmod_eq_emod_of_nonneg (by omega)]
    rw [(D_two _ (-a / 60) (by omega) (by omega) (by simp [D_len]; omega)).2]
    simp only [Option.bind_some]
    rw [(D_two _ (-a % 60) (by omega) (by omega) (by simp [D_len]; omega)).2]
    simp [OutB, Zn, z, p]
/-! Reading what was written. -/
theorem rd_D0 (n : Int) (r : List Int) : rd (D n ++ r) 0 = 48 + n / 10 := rfl
theorem rd_D1 (n : Int) (r : List Int) : rd (D n ++ r) 1 = 48 + n % 10 := rfl
theorem l2_D {n : Int} (h0 : 0 ≤ n) (h1 : n ≤ 99) (r : List Int) : l2 (D n ++ r) = true ∧ lv (D n ++ r) = n := by
  constructor
  · unfold l2 l1
    rw [rd_D0, rd_D1, decide_eq_true (show 2 ≤ (D n ++ r).length by simp [D_len]), decide_eq_true (show 48 ≤ 48 + n / 10 by omega), decide_eq_true (show 48 + n / 10 ≤ 57 by omega), decide_eq_true (show 48 ≤ 48 + n % 10 by omega), decide_eq_true (show 48 + n % 10 ≤ 57 by omega)]
    rfl
  · unfold lv
    rw [rd_D0, rd_D1]
    omega
theorem bytes_D {n : Int} (h0 : 0 ≤ n) (h1 : n ≤ 99) {r : List Int} (hr : bytesIn r) : bytesIn (D n ++ r) := by
  intro x hx
  simp only [D, List.cons_append, List.nil_append, List.mem_cons] at hx
  rcases hx with rfl | rfl | hx
  · omega
  · omega
  · exact hr x hx
theorem bytes_cons {c : Int} (h0 : 0 ≤ c) (h1 : c ≤ 255) {r : List Int} (hr : bytesIn r) : bytesIn (c :: r) := by
  intro x hx
  rcases List.mem_cons.1 hx with rfl | hx
  · omega
  · exact hr x hx
theorem bytes_nil : bytesIn [] := fun x hx => by cases hx
theorem Zn_bytes {a : Int} (a0 : -1440 < a) (a1 : a < 1440) : bytesIn (Zn a) := by
  unfold Zn
  have e : ∀ n : Int, 0 ≤ n → n ≤ 99 → bytesIn (D n) := fun n h0 h1 => by simpa using bytes_D h0 h1 bytes_nil
  split
  · exact bytes_cons (by omega) (by omega) bytes_nil
  · split
    · exact bytes_cons (by omega) (by omega) (bytes_D (by omega) (by omega) (e _ (by omega) (by omega)))
    · exact bytes_cons (by omega) (by omega) (bytes_D (by omega) (by omega) (e _ (by omega) (by omega)))
theorem Zn_reads {a : Int} (a0 : -1440 < a) (a1 : a < 1440) : lzOk (Zn a) = true ∧ lzV (Zn a) = a := by
  have key : ∀ c n : Int, (c = 43 ∨ c = 45) → 0 < n → n < 1440 → lzOk (c :: (D (n / 60) ++ D (n % 60))) = true ∧ lv ((c :: (D (n / 60) ++ D (n % 60))).drop 1) * 60 + lv ((c :: (D (n / 60) ++ D (n % 60))).drop 3) = n := by
    intro c n hc h0 h1
    have e1 : (c :: (D (n / 60) ++ D (n % 60))).drop 1 = D (n / 60) ++ D (n % 60) := rfl
    have e3 : (c :: (D (n / 60) ++ D (n % 60))).drop 3 = D (n % 60) ++ [] := rfl
    have p1 := l2_D (n := n / 60) (by omega) (by omega) (D (n % 60))
    have p2 := l2_D (n := n % 60) (by omega) (by omega) []
    unfold lzOk
    rw [e1, e3, p1.1, p1.2, p2.1, p2.2]
    have ev : n / 60 * 60 + n % 60 = n := by omega
    rw [ev, decide_eq_true (show (c :: (D (n / 60) ++ D (n % 60))).length = 5 from rfl), decide_eq_true (show n / 60 ≤ 24 by omega), decide_eq_true (show n % 60 ≤ 59 by omega), beq_eq_false_iff_ne.mpr (show n ≠ 0 by omega)]
    have e0 : rd (c :: (D (n / 60) ++ D (n % 60))) 0 = c := rfl
    rw [e0]
    rcases hc with rfl | rfl <;> simp
  unfold Zn
  by_cases z : a = 0
  · rw [if_pos z, z]
    exact ⟨rfl, rfl⟩
  rw [if_neg z]
  by_cases p : 0 < a
  · rw [if_pos p]
    obtain ⟨k1, k2⟩ := key 43 a (.inl rfl) p a1
    refine ⟨k1, ?_⟩
    unfold lzV
    rw [if_neg (by intro h; have := congrArg List.length h; simp [D_len] at this), if_pos k1, if_neg (show ¬ rd (43 :: (D (a / 60) ++ D (a % 60))) 0 = 45 from by show ¬ (43 : Int) = 45; decide), k2]
  · rw [if_neg p]
    obtain ⟨k1, k2⟩ := key 45 (-a) (.inr rfl) (by omega) (by omega)
    refine ⟨k1, ?_⟩
    unfold lzV
    rw [if_neg (by intro h; have := congrArg List.length h; simp [D_len] at this), if_pos k1, if_pos (show rd (45 :: (D (-a / 60) ++ D (-a % 60))) 0 = 45 from rfl), k2]
    omega
theorem OutB_bytes {mo d h mi s a : Int} (ht : okT mo d h mi s a) : bytesIn (OutB mo d h mi s a) := by
  obtain ⟨m0, m1, d0, d1', h0, h1, i0, i1, s0, s1, a0, a1⟩ := ht
  exact bytes_D m0 m1 (bytes_D d0 d1' (bytes_D h0 h1 (bytes_D i0 i1 (bytes_D s0 s1 (Zn_bytes a0 a1)))))
theorem bytes_same (x : List Int) : bytes_Equal.f x x = some true := by simp [bytes_Equal.f]
theorem D_drop (n : Int) (r : List Int) (k : Nat) : (D n ++ r).drop (k + 2) = r.drop k := rfl
theorem right_okT {y mo d h mi s na a : Int} (hr : rightB y mo d h mi s na a = true) : okT mo d h mi s a ∧ 1 ≤ mo ∧ mo ≤ 12 ∧ 1 ≤ d ∧ d ≤ daysI y mo ∧ h < 24 ∧ mi < 60 ∧ s < 60 ∧ 0 ≤ y ∧ y ≤ 9999 := by
  have dl : daysI y mo ≤ 31 := by unfold daysI; repeat' split <;> omega
  simp only [rightB, Bool.and_eq_true, decide_eq_true_eq] at hr
  unfold okT
  omega
theorem dated_of {y mo d h mi s na a : Int} (hr : rightB y mo d h mi s na a = true) : datedB y mo d h mi s na a = true := by
  simp only [rightB, Bool.and_eq_true, decide_eq_true_eq] at hr
  simp only [datedB, Bool.and_eq_true, decide_eq_true_eq]
  omega
/-- The package reads what it wrote. -/
theorem read_put {y mo d h mi s na a : Int} (hr : rightB y mo d h mi s na a = true) (y0 : 1950 ≤ y) (y1 : y ≤ 2049) : impl_ReadUTC.f (D (y % 100) ++ OutB mo d h mi s a) = some (y, mo, d, h, mi, s, 0, a, true) := by
  obtain ⟨ht, b1, b2, b3, b4, b5, b6, b7, -, -⟩ := right_okT hr
  have hb := bytes_D (n := y % 100) (by omega) (by omega) (OutB_bytes ht)
  obtain ⟨m0, m1, d0, d1', h0, h1, i0, i1, s0, s1, a0, a1⟩ := ht
  obtain ⟨e1, e2, e3, e4, e5⟩ := @dr_str (D (y % 100) ++ OutB mo d h mi s a)
  have k1 : (D (y % 100) ++ OutB mo d h mi s a).drop 2 = D mo ++ (D d ++ (D h ++ (D mi ++ (D s ++ Zn a)))) := rfl
  have k2 : (D (y % 100) ++ OutB mo d h mi s a).drop 4 = D d ++ (D h ++ (D mi ++ (D s ++ Zn a))) := rfl
  have k3 : (D (y % 100) ++ OutB mo d h mi s a).drop 6 = D h ++ (D mi ++ (D s ++ Zn a)) := rfl
  have k4 : (D (y % 100) ++ OutB mo d h mi s a).drop 8 = D mi ++ (D s ++ Zn a) := rfl
  have k5 : (D (y % 100) ++ OutB mo d h mi s a).drop 10 = D s ++ Zn a := rfl
  have q0 := l2_D (n := y % 100) (by omega) (by omega) (OutB mo d h mi s a)
  have q1 := l2_D m0 m1 (D d ++ (D h ++ (D mi ++ (D s ++ Zn a))))
  have q2 := l2_D d0 d1' (D h ++ (D mi ++ (D s ++ Zn a)))
  have q3 := l2_D h0 h1 (D mi ++ (D s ++ Zn a))
  have q4 := l2_D i0 i1 (D s ++ Zn a)
  have q5 := l2_D s0 s1 (Zn a)
  have zr := Zn_reads a0 a1
  have hb10 : bytesIn (D s ++ Zn a) := bytes_D s0 s1 (Zn_bytes a0 a1)
  have hbZ := Zn_bytes a0 a1
  have hR4 : uR4 (strOfNums (D (y % 100) ++ OutB mo d h mi s a)) = strOfNums (D s ++ Zn a) := by unfold uR4; rw [e5, k5]
  have hfive : five (D (y % 100) ++ OutB mo d h mi s a) = true := by
    unfold five
    rw [k1, k2, k3, k4, q0.1, q1.1, q2.1, q3.1, q4.1]
    rfl
  have hdg : dg2 (strOfNums (D s ++ Zn a)) = true := by rw [dg2_str hb10, q5.1]
  have hS : uSec (strOfNums (D (y % 100) ++ OutB mo d h mi s a)) = s := by unfold uSec; rw [hR4, if_pos hdg, dv2_str hb10, q5.2]
  have hR : uR (strOfNums (D (y % 100) ++ OutB mo d h mi s a)) = strOfNums (Zn a) := by
    unfold uR
    rw [hR4, if_pos hdg, dr2_str]
    rfl
  have v0 : dv2 (strOfNums (D (y % 100) ++ OutB mo d h mi s a)) = y % 100 := by rw [dv2_str hb, q0.2]
  have hy : uYear (strOfNums (D (y % 100) ++ OutB mo d h mi s a)) = y ∧ daysI (uY (strOfNums (D (y % 100) ++ OutB mo d h mi s a))) mo = daysI y mo := by
    unfold uYear uY
    rw [v0]
    by_cases c69 : 2069 ≤ y % 100 + 2000
    · rw [if_pos c69, if_pos (by omega), show y % 100 + 1900 = y by omega]
      exact ⟨rfl, rfl⟩
    · rw [if_neg c69]
      by_cases c50 : y % 100 + 2000 < 2050
      · rw [if_pos c50, show y % 100 + 2000 = y by omega]
        exact ⟨rfl, rfl⟩
      · rw [if_neg c50, show y % 100 + 2000 - 100 = y by omega]
        refine ⟨rfl, ?_⟩
        rw [days_100 (y % 100) mo (by omega) (by omega), show y % 100 + 1900 = y by omega]
  have ok : uOk (strOfNums (D (y % 100) ++ OutB mo d h mi s a)) = true := by
    unfold uOk uB dateB
    rw [uD_str hb, hfive, e4, e3, e2, e1, k1, k2, k3, k4, dv2_str (by rw [← k1]; exact bytesIn_d hb 2), dv2_str (by rw [← k2]; exact bytesIn_d hb 4), dv2_str (by rw [← k3]; exact bytesIn_d hb 6), dv2_str (by rw [← k4]; exact bytesIn_d hb 8), q1.2, q2.2, q3.2, q4.2, hy.2, hR4, dv2_str hb10, q5.2, hR, zO_str hbZ, zr.1]
    simp [b1, b2, b3, b4, b5, b6, b7]
  unfold impl_ReadUTC.f
  rw [if_pos (by have := Zn_len a; simp [D_len, OutB]; omega), if_pos ok, e4, e3, e2, e1, k1, k2, k3, k4, hy.1, hS, hR, zV_str hbZ, zr.2, dv2_str (by rw [← k1]; exact bytesIn_d hb 2), dv2_str (by rw [← k2]; exact bytesIn_d hb 4), dv2_str (by rw [← k3]; exact bytesIn_d hb 6), dv2_str (by rw [← k4]; exact bytesIn_d hb 8), q1.2, q2.2, q3.2, q4.2]
theorem putUTC_yes (k : Nat) {y mo d h mi s na a : Int} (hr : rightB y mo d h mi s na a = true) (y0 : 1950 ≤ y) (y1 : y ≤ 2049) : impl_PutUTC.f (k + 4) y mo d h mi s na a = some (D (y % 100) ++ OutB mo d h mi s a, true) := by
  obtain ⟨ht, -⟩ := right_okT hr
  unfold impl_PutUTC.f
  rw [if_pos (dated_of hr)]
  have e : asn1_ZZPutUTC.f (k + 4) y mo d h mi s na a = some (D (y % 100) ++ OutB mo d h mi s a, none) := by
    unfold asn1_ZZPutUTC.f asn1_appendUTCTime.f
    rw [if_pos y0]
    by_cases c : y < 2000
    · rw [decide_eq_true c]
      simp only [asn1_appendUTCTime.j0]
      rw [if_pos trivial, show wrap64 (y - 1900) = y % 100 by unfold wrap64; omega, (D_two [] (y % 100) (by omega) (by omega) (by simp)).1]
      simp only [Option.bind_some, List.nil_append]
      rw [common_eq (k + 2) (D (y % 100)) y mo d h mi s na a ht (by simp [D_len])]
      rfl
    · rw [decide_eq_false c]
      simp only [asn1_appendUTCTime.j0]
      rw [if_neg (by decide), if_pos (by omega), decide_eq_true (show y < 2050 by omega)]
      simp only [asn1_appendUTCTime.j1]
      rw [if_pos trivial, show wrap64 (y - 2000) = y % 100 by unfold wrap64; omega, (D_two [] (y % 100) (by omega) (by omega) (by simp)).1]
      simp only [Option.bind_some, List.nil_append]
      rw [common_eq (k + 1) (D (y % 100)) y mo d h mi s na a ht (by simp [D_len])]
      rfl
  rw [e]
  rfl
theorem putUTC_no (k : Nat) {y mo d h mi s na a : Int} (hr : rightB y mo d h mi s na a = true) (hy : ¬ (1950 ≤ y ∧ y ≤ 2049)) : impl_PutUTC.f (k + 4) y mo d h mi s na a = some ([], false) := by
  unfold impl_PutUTC.f
  rw [if_pos (dated_of hr)]
  have e : asn1_ZZPutUTC.f (k + 4) y mo d h mi s na a = some ([], some 0) := by
    unfold asn1_ZZPutUTC.f asn1_appendUTCTime.f
    by_cases c : 1950 ≤ y
    · rw [if_pos c, decide_eq_false (by omega)]
      simp only [asn1_appendUTCTime.j0]
      rw [if_neg (by decide), if_pos (by omega), decide_eq_false (by omega)]
      simp only [asn1_appendUTCTime.j1]
      rfl
    · rw [if_neg c]
      simp only [asn1_appendUTCTime.j0]
      rw [if_neg (by decide), if_neg (by omega)]
      simp only [asn1_appendUTCTime.j1]
      rfl
  rw [e]
  rfl
theorem specUTC (k : Nat) {y mo d h mi s na a : Int} (hr : rightB y mo d h mi s na a = true) : spec_PutUtc.f (k + 6) y mo d h mi s na a = some (D (y % 100) ++ OutB mo d h mi s a) := by
  obtain ⟨ht, -, -, -, -, -, -, -, y0, -⟩ := right_okT hr
  unfold spec_PutUtc.f
  rw [Int.tmod_eq_emod_of_nonneg y0, (D_two [] (y % 100) (by omega) (by omega) (by simp)).2]
  simp only [Option.bind_some, List.nil_append]
  rw [behind_eq k (D (y % 100)) y mo d h mi s na a ht (by simp [D_len])]
  rfl
theorem pure_ (y mo d h mi s na a : Int) : laws_FnPutUTC.f 10 y mo d h mi s na a = some true := by
  unfold laws_FnPutUTC.f laws_right.f spec_Clock_Right.f
  simp only [Option.bind_some]
  cases hr : rightB y mo d h mi s na a with
  | false => rfl
  | true =>
    rw [if_pos rfl]
    have c0 : impl_PutUTC.f 9 1991 5 6 0 0 0 0 0 = some (D (1991 % 100) ++ OutB 5 6 0 0 0 0, true) := putUTC_yes 5 (by decide) (by decide) (by decide)
    have key : ∀ b : Bool, b = decide (1950 ≤ y ∧ y ≤ 2049) → laws_FnPutUTC.j0 10 b y mo d h mi s na a y mo d h mi s na a = some true := by
      intro b hb
      show laws_FnPutUTC.j0 (9 + 1) b y mo d h mi s na a y mo d h mi s na a = some true
      simp only [laws_FnPutUTC.j0]
      by_cases hy : 1950 ≤ y ∧ y ≤ 2049
      · rw [decide_eq_true hy] at hb
        subst hb
        rw [putUTC_yes 5 hr hy.1 hy.2, c0]
        simp only [Option.bind_some]
        rw [if_neg (by decide), if_pos trivial, read_put hr hy.1 hy.2, specUTC 3 hr]
        simp only [Option.bind_some]
        rw [bytes_same]
        simp
      · rw [decide_eq_false hy] at hb
        subst hb
        rw [putUTC_no 5 hr hy, c0]
        simp
    by_cases c : y ≥ 1950
    · rw [if_pos c]
      exact key _ (by by_cases q : y ≤ 2049 <;> simp [q]; omega)
    · rw [if_neg c]
      exact key _ (by symm; exact decide_eq_false (by omega))
end Go.Proofs.Ytmiemfgcggkbnaa.PureP
