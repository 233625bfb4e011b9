/- Plain facts: what the reference takes for a UTCTime and what the package takes for one are the same. No memory and no walk. -/
import Derived.Test.YtmiemfgcggkbnaaQUx4
import Derived.Test.YtmiemfgcggkbnaaQUx7
set_option linter.unusedSimpArgs false
set_option linter.unusedVariables false
namespace Go.Proofs.Ytmiemfgcggkbnaa.Pure
open Go.RowKit Go.Proofs.Ytmiemfgcggkbnaa.QU Go.Proofs.YtmiemfgcggkbnaaW.PrintWords Go.Proofs.YtmiemfgcggkbnaaW.PrintLast
theorem wf_byte {x : Int} (h : (Lit.int .u8 x).wf = true) : 0 ≤ x ∧ x ≤ 255 := by
  simpa [Lit.wf, IntKind.min, IntKind.max, IntKind.signed, IntKind.bits] using h
theorem bt_str {l : List Int} (hb : bytesIn l) (i : Int) : bt (strOfNums l) i = rd l i := by
  unfold bt rd
  have hsz := strOfNums_size l
  by_cases h : i.toNat < l.length
  · rw [dif_pos (by rw [hsz]; exact h), List.getD_eq_getElem?_getD, List.getElem?_eq_getElem h]
    have hx := hb _ (List.getElem_mem h)
    have : (strOfNums l)[i.toNat]'(by rw [hsz]; exact h) = UInt8.ofNat (l[i.toNat]).toNat := by
      rw [ByteArray.getElem_eq_getElem_data]
      simp [strOfNums]
    rw [this]
    simp only [Option.getD_some]
    rw [UInt8.toNat_ofNat']
    omega
  · rw [dif_neg (by rw [hsz]; exact h), List.getD_eq_getElem?_getD, List.getElem?_eq_none (by omega)]
    rfl
theorem ext_str (l : List Int) (n : Nat) : (strOfNums l).extract n (strOfNums l).size = strOfNums (l.drop n) := by
  apply ByteArray.ext
  rw [ByteArray.data_extract]
  apply Array.ext'
  rw [strOfNums_size]
  show ((l.map fun n => UInt8.ofNat n.toNat).toArray.extract n l.length).toList = _
  rw [strOfNums_data]
  simp
  rw [List.take_of_length_le (by simp)]
theorem toList_str (l : List Int) : (strOfNums l).toList = l.map fun n => UInt8.ofNat n.toNat := by
  unfold strOfNums
  rw [show (ByteArray.mk (l.map fun n => UInt8.ofNat n.toNat).toArray) = ByteArray.mk ⟨l.map fun n => UInt8.ofNat n.toNat⟩ from rfl, ByteArray.toList_mk]
theorem list90 {l : List Int} (hb : bytesIn l) : (strOfNums l).toList = ([90] : List UInt8) ↔ l = [90] := by
  rw [toList_str]
  constructor
  · intro h
    match l, h with
    | [], h => cases h
    | [x], h =>
      simp only [List.map_cons, List.map_nil, List.cons.injEq, and_true] at h
      have hx := hb x (by simp)
      have := congrArg UInt8.toNat h
      rw [UInt8.toNat_ofNat'] at this
      have h90 : (90 : UInt8).toNat = 90 := rfl
      rw [h90] at this
      have : x = 90 := by omega
      rw [this]
    | _ :: _ :: _, h => simp at h
  · rintro rfl
    rfl
/-- Two figures at the front. -/
def l1 (l : List Int) (i : Int) : Bool := decide (48 ≤ rd l i) && decide (rd l i ≤ 57)
def l2 (l : List Int) : Bool := decide (2 ≤ l.length) && l1 l 0 && l1 l 1
def lv (l : List Int) : Int := 10 * (rd l 0 - 48) + (rd l 1 - 48)
theorem dg2_str {l : List Int} (hb : bytesIn l) : dg2 (strOfNums l) = l2 l := by
  unfold dg2 l2 d1 l1
  rw [strOfNums_size, bt_str hb, bt_str hb]
theorem dv2_str {l : List Int} (hb : bytesIn l) : dv2 (strOfNums l) = lv l := by
  unfold dv2 lv
  rw [bt_str hb, bt_str hb]
theorem dr2_str (l : List Int) : dr2 (strOfNums l) = strOfNums (l.drop 2) := ext_str l 2
theorem lv_range {l : List Int} (h : l2 l = true) : 0 ≤ lv l ∧ lv l ≤ 99 := by
  simp only [l2, l1, Bool.and_eq_true, decide_eq_true_eq] at h
  unfold lv
  omega
theorem take2 {l : List Int} (h : 2 ≤ l.length) : l.take 2 = [rd l 0, rd l 1] := by
  match l, h with
  | x :: y :: r, _ => rfl
theorem figO_l (l : List Int) : figO 2 l = l2 l := by
  unfold figO l2
  by_cases h : l.length < 2
  · rw [if_pos h, decide_eq_false (by omega)]
    rfl
  · rw [if_neg h, decide_eq_true (by omega), take2 (by omega)]
    simp [figD, l1]
theorem figN_l {l : List Int} (h : l2 l = true) : figN 2 l = lv l := by
  have h2 : 2 ≤ l.length := by
    simp only [l2, Bool.and_eq_true, decide_eq_true_eq] at h
    exact h.1.1
  unfold figN
  rw [if_neg (by omega), take2 h2]
  simp only [figV, List.foldl_cons, List.foldl_nil]
  unfold lv
  omega
theorem figL_l {l : List Int} (h : l2 l = true) : figL 2 l = l.drop 2 := by
  have h2 : 2 ≤ l.length := by
    simp only [l2, Bool.and_eq_true, decide_eq_true_eq] at h
    exact h.1.1
  unfold figL
  rw [if_neg (by omega)]
theorem bytesIn_d {l : List Int} (h : bytesIn l) (n : Nat) : bytesIn (l.drop n) := fun x hx => h x (List.mem_of_mem_drop hx)
/-- A zone, read by the package: Z, or a sign and hours (to 24) and minutes, not all 0. -/
def lzOk (l : List Int) : Bool := decide (l = [90]) || (decide (l.length = 5) && (rd l 0 == 43 || rd l 0 == 45) && l2 (l.drop 1) && l2 (l.drop 3) && decide (lv (l.drop 1) ≤ 24) && decide (lv (l.drop 3) ≤ 59) && !(lv (l.drop 1) * 60 + lv (l.drop 3) == 0))
def lzV (l : List Int) : Int := if l = [90] then 0 else if lzOk l = true then (if rd l 0 = 45 then -(lv (l.drop 1) * 60 + lv (l.drop 3)) else lv (l.drop 1) * 60 + lv (l.drop 3)) else 0
theorem zO_str {l : List Int} (hb : bytesIn l) : zO (strOfNums l) = lzOk l := by
  unfold zO lzOk zN
  rw [ext_str l 1, dr2_str, List.drop_drop, strOfNums_size, bt_str hb, dg2_str (bytesIn_d hb _), dg2_str (bytesIn_d hb _), dv2_str (bytesIn_d hb _), dv2_str (bytesIn_d hb _)]
  have : ((strOfNums l).toList == ([90] : List UInt8)) = decide (l = [90]) := by
    rw [Bool.eq_iff_iff, beq_iff_eq, decide_eq_true_eq]
    exact list90 hb
  rw [this]
theorem zV_str {l : List Int} (hb : bytesIn l) : zV (strOfNums l) = lzV l := by
  unfold zV lzV zN
  rw [zO_str hb, ext_str l 1, dr2_str, List.drop_drop, bt_str hb, dv2_str (bytesIn_d hb _), dv2_str (bytesIn_d hb _)]
  by_cases h : l = [90]
  · rw [if_pos ((list90 hb).2 h), if_pos h]
  · rw [if_neg (fun h' => h ((list90 hb).1 h')), if_neg h]
theorem zoneO_and (ok : Bool) (l : List Int) : zoneO ok l = (ok && zoneO true l) := by
  unfold zoneO
  by_cases h : nextB 90 l = true
  · rw [if_pos h, if_pos h]; simp
  · rw [if_neg h, if_neg h]
    cases ok <;> simp
theorem l2_len {l : List Int} (h : l2 l = true) : 2 ≤ l.length := by
  simp only [l2, Bool.and_eq_true, decide_eq_true_eq] at h
  exact h.1.1
theorem zone_of_lz {l : List Int} (h : lzOk l = true) : zoneO true l = true ∧ zoneL l = [] ∧ zoneV l = lzV l := by
  by_cases hz : l = [90]
  · subst hz
    exact ⟨rfl, rfl, rfl⟩
  have hv : lzV l = if rd l 0 = 45 then -(lv (l.drop 1) * 60 + lv (l.drop 3)) else lv (l.drop 1) * 60 + lv (l.drop 3) := by
    unfold lzV
    rw [if_neg hz, if_pos h]
  rw [hv]
  simp only [lzOk, decide_eq_false hz, Bool.false_or, Bool.and_eq_true, decide_eq_true_eq, Bool.or_eq_true, beq_iff_eq, Bool.not_eq_true', beq_eq_false_iff_ne] at h
  obtain ⟨⟨⟨⟨⟨⟨h5, hc⟩, ha⟩, hb⟩, h24⟩, h59⟩, hn⟩ := h
  match l, h5 with
  | c :: r, h5 =>
    have e3 : (c :: r).drop 3 = r.drop 2 := rfl
    have e1 : (c :: r).drop 1 = r := rfl
    have e0 : rd (c :: r) 0 = c := rfl
    rw [e1] at ha h24 hn
    rw [e3] at hb h59 hn
    rw [e0] at hc
    rw [e0, e1, e3]
    have ra := lv_range ha
    have rb := lv_range hb
    have n90 : nextB 90 (c :: r) = false := beq_eq_false_iff_ne.mpr (by omega)
    have zr : zRest (c :: r) = r := by
      unfold zRest
      rw [if_pos (by rcases hc with rfl | rfl <;> rfl)]
      rfl
    have fl : figL 2 r = r.drop 2 := figL_l ha
    have fl2 : figL 2 (r.drop 2) = (r.drop 2).drop 2 := figL_l hb
    refine ⟨?_, ?_, ?_⟩
    · unfold zoneO
      rw [n90, if_neg (by decide), zr, fl, figO_l, figO_l, ha, hb, figN_l ha, figN_l hb, decide_eq_true (by omega), decide_eq_true (by omega)]
      rcases hc with rfl | rfl <;> rfl
    · unfold zoneL
      rw [n90, if_neg (by decide), zr, fl, fl2]
      simp at h5
      apply List.eq_nil_of_length_eq_zero
      simp
      omega
    · unfold zoneV
      rw [n90, if_neg (by decide), zr, fl, figN_l ha, figN_l hb]
      by_cases h45 : c = 45
      · subst h45
        rw [if_pos (show nextB 45 (45 :: r) = true from rfl), if_pos rfl]
        omega
      · rw [if_neg (show ¬ nextB 45 (c :: r) = true from by intro h; exact h45 (beq_iff_eq.mp h)), if_neg h45]
        omega
theorem lz_of_zone {l : List Int} (h1 : zoneO true l = true) (h2 : zoneL l = []) (h3 : zoneT l = true) : lzOk l = true := by
  cases h90 : nextB 90 l with
  | true =>
    match l, h90 with
    | c :: r, h90 =>
      have hc : c = 90 := beq_iff_eq.mp h90
      have hr : r = [] := by
        have : zoneL (c :: r) = r := by unfold zoneL; rw [h90, if_pos rfl]; rfl
        rw [← this]; exact h2
      subst hc; subst hr
      rfl
  | false =>
    unfold zoneO at h1
    unfold zoneL at h2
    unfold zoneT at h3
    rw [h90, if_neg (by decide)] at h1 h2 h3
    simp only [Bool.and_eq_true, Bool.or_eq_true, decide_eq_true_eq, Bool.true_and] at h1
    obtain ⟨⟨⟨⟨hs, ha⟩, hb⟩, hm⟩, hp⟩ := h1
    match l, hs with
    | c :: r, hs =>
      have hc : c = 45 ∨ c = 43 := by
        rcases hs with hs | hs
        · exact .inl (beq_iff_eq.mp hs)
        · exact .inr (beq_iff_eq.mp hs)
      have zr : zRest (c :: r) = r := by
        unfold zRest
        rw [if_pos (by rcases hc with rfl | rfl <;> rfl)]
        rfl
      rw [zr] at ha hb hm hp h2 h3
      rw [figO_l] at ha
      have fl : figL 2 r = r.drop 2 := figL_l ha
      rw [fl, figO_l] at hb
      have fl2 : figL 2 (r.drop 2) = (r.drop 2).drop 2 := figL_l hb
      rw [fl, fl2] at h2
      rw [fl, figN_l hb] at hm hp
      rw [figN_l ha] at hp h3
      have hlen := l2_len hb
      have ra := lv_range ha
      have rb := lv_range hb
      have hl0 := congrArg List.length h2
      simp at hl0 hlen
      have h3' := of_decide_eq_true h3
      unfold lzOk
      have e3 : (c :: r).drop 3 = r.drop 2 := rfl
      have e1 : (c :: r).drop 1 = r := rfl
      have e0 : rd (c :: r) 0 = c := rfl
      rw [e1, e3, e0, ha, hb, decide_eq_true (show (c :: r).length = 5 by simp; omega), decide_eq_true (show lv r ≤ 24 by omega), decide_eq_true (show lv (r.drop 2) ≤ 59 by omega), beq_eq_false_iff_ne.mpr (show lv r * 60 + lv (r.drop 2) ≠ 0 by omega)]
      rcases hc with rfl | rfl <;> simp
theorem head_lz {l : List Int} (h : lzOk l = true) : dig0 l = false := by
  by_cases hz : l = [90]
  · subst hz; rfl
  · simp only [lzOk, decide_eq_false hz, Bool.false_or, Bool.and_eq_true, Bool.or_eq_true, beq_iff_eq] at h
    have hc := h.1.1.1.1.1.2
    cases hd : dig0 l with
    | false => rfl
    | true =>
      simp only [dig0, Bool.and_eq_true, decide_eq_true_eq] at hd
      omega
theorem l2_dig0 {l : List Int} (h : l2 l = true) : dig0 l = true := by
  have h2 := l2_len h
  simp only [l2, l1, Bool.and_eq_true, decide_eq_true_eq] at h
  simp only [dig0, Bool.and_eq_true, decide_eq_true_eq]
  omega
theorem days_100 (v m : Int) (h1 : 50 ≤ v) (h2 : v ≤ 68) : daysI (v + 2000) m = daysI (v + 1900) m := by
  have e1 : (Int.tmod (v + 2000) 4 = 0) = (Int.tmod (v + 1900) 4 = 0) := by
    rw [Int.tmod_eq_emod_of_nonneg (by omega), Int.tmod_eq_emod_of_nonneg (by omega)]
    exact propext ⟨fun h => by omega, fun h => by omega⟩
  have e2 : ¬ Int.tmod (v + 2000) 100 = 0 := by
    rw [Int.tmod_eq_emod_of_nonneg (by omega)]; omega
  have e3 : ¬ Int.tmod (v + 1900) 100 = 0 := by
    rw [Int.tmod_eq_emod_of_nonneg (by omega)]; omega
  unfold daysI
  rw [if_neg e2, if_neg e3]
  simp only [e1]
theorem year_same {l : List Int} (hb : bytesIn l) (h : l2 l = true) : uYear (strOfNums l) = yearI (lv l) ∧ ∀ m, daysI (uY (strOfNums l)) m = daysI (yearI (lv l)) m := by
  have r := lv_range h
  unfold uYear uY
  rw [dv2_str hb]
  unfold yearI
  by_cases h69 : 2069 ≤ lv l + 2000
  · rw [if_pos h69, if_pos (show lv l + 1900 < 2050 by omega), if_neg (show ¬ lv l + 1900 < 1950 by omega)]
    exact ⟨rfl, fun _ => rfl⟩
  · rw [if_neg h69]
    by_cases h50 : lv l + 1900 < 1950
    · rw [if_pos h50, if_pos (show lv l + 2000 < 2050 by omega)]
      exact ⟨rfl, fun _ => rfl⟩
    · rw [if_neg h50, if_neg (show ¬ lv l + 2000 < 2050 by omega)]
      exact ⟨by omega, fun m => days_100 _ m (by omega) (by omega)⟩
theorem year_range {l : List Int} (h : l2 l = true) : 1950 ≤ yearI (lv l) ∧ yearI (lv l) ≤ 2049 := by
  have r := lv_range h
  unfold yearI
  split <;> omega
/-- All five pairs of figures. -/
def five (l : List Int) : Bool := l2 l && l2 (l.drop 2) && l2 (l.drop 4) && l2 (l.drop 6) && l2 (l.drop 8)
theorem five_of {l : List Int} (h : five l = true) : l2 l = true ∧ l2 (l.drop 2) = true ∧ l2 (l.drop 4) = true ∧ l2 (l.drop 6) = true ∧ l2 (l.drop 8) = true := by
  simp only [five, Bool.and_eq_true] at h
  exact ⟨h.1.1.1.1, h.1.1.1.2, h.1.1.2, h.1.2, h.2⟩
theorem rest_of {l : List Int} (h : five l = true) : u1L l = l.drop 2 ∧ u2L l = l.drop 4 ∧ u3L l = l.drop 6 ∧ u4L l = l.drop 8 ∧ u5L l = l.drop 10 := by
  obtain ⟨a, b, c, d, e⟩ := five_of h
  have e1 : u1L l = l.drop 2 := figL_l a
  have e2 : u2L l = l.drop 4 := by unfold u2L; rw [e1, figL_l b, List.drop_drop]
  have e3 : u3L l = l.drop 6 := by unfold u3L; rw [e2, figL_l c, List.drop_drop]
  have e4 : u4L l = l.drop 8 := by unfold u4L; rw [e3, figL_l d, List.drop_drop]
  have e5 : u5L l = l.drop 10 := by unfold u5L; rw [e4, figL_l e, List.drop_drop]
  exact ⟨e1, e2, e3, e4, e5⟩
theorem u5O_five (l : List Int) : u5O l = five l := by
  unfold u5O five
  rw [figO_l, figO_l, figO_l, figO_l, figO_l]
  cases a : l2 l with
  | false => simp
  | true =>
    have e1 : u1L l = l.drop 2 := figL_l a
    rw [e1]
    cases b : l2 (l.drop 2) with
    | false => simp
    | true =>
      have e2 : u2L l = l.drop 4 := by unfold u2L; rw [e1, figL_l b, List.drop_drop]
      rw [e2]
      cases c : l2 (l.drop 4) with
      | false => simp
      | true =>
        have e3 : u3L l = l.drop 6 := by unfold u3L; rw [e2, figL_l c, List.drop_drop]
        rw [e3]
        cases d : l2 (l.drop 6) with
        | false => simp
        | true =>
          have e4 : u4L l = l.drop 8 := by unfold u4L; rw [e3, figL_l d, List.drop_drop]
          rw [e4]
          simp
theorem dr_str {l : List Int} : dr2 (strOfNums l) = strOfNums (l.drop 2) ∧ dr2 (dr2 (strOfNums l)) = strOfNums (l.drop 4) ∧ dr2 (dr2 (dr2 (strOfNums l))) = strOfNums (l.drop 6) ∧ dr2 (dr2 (dr2 (dr2 (strOfNums l)))) = strOfNums (l.drop 8) ∧ dr2 (dr2 (dr2 (dr2 (dr2 (strOfNums l))))) = strOfNums (l.drop 10) := by
  have e1 := dr2_str l
  have e2 : dr2 (dr2 (strOfNums l)) = strOfNums (l.drop 4) := by rw [e1, dr2_str, List.drop_drop]
  have e3 : dr2 (dr2 (dr2 (strOfNums l))) = strOfNums (l.drop 6) := by rw [e2, dr2_str, List.drop_drop]
  have e4 : dr2 (dr2 (dr2 (dr2 (strOfNums l)))) = strOfNums (l.drop 8) := by rw [e3, dr2_str, List.drop_drop]
  have e5 : dr2 (dr2 (dr2 (dr2 (dr2 (strOfNums l))))) = strOfNums (l.drop 10) := by rw [e4, dr2_str, List.drop_drop]
  exact ⟨e1, e2, e3, e4, e5⟩
theorem uD_str {l : List Int} (hb : bytesIn l) : (dg2 (strOfNums l) && uD (strOfNums l)) = five l := by
  obtain ⟨e1, e2, e3, e4, e5⟩ := @dr_str l
  unfold uD five
  rw [e4, e3, e2, e1, dg2_str hb, dg2_str (bytesIn_d hb _), dg2_str (bytesIn_d hb _), dg2_str (bytesIn_d hb _), dg2_str (bytesIn_d hb _)]
  cases l2 l <;> cases l2 (l.drop 2) <;> cases l2 (l.drop 4) <;> cases l2 (l.drop 6) <;> cases l2 (l.drop 8) <;> rfl
/-- The day and the minute, read by the package. -/
theorem uB_str {l : List Int} (hb : bytesIn l) (h : five l = true) (s : Int) (h0 : 0 ≤ s) : (uB (strOfNums l) && decide (s < 60)) = rightB (yearI (lv l)) (lv (l.drop 2)) (lv (l.drop 4)) (lv (l.drop 6)) (lv (l.drop 8)) s 0 0 := by
  obtain ⟨e1, e2, e3, e4, e5⟩ := @dr_str l
  obtain ⟨a, b, c, d, e⟩ := five_of h
  have ry := year_range a
  have rd' := lv_range d
  have re := lv_range e
  have hy := (year_same hb a).2 (lv (l.drop 2))
  unfold uB dateB rightB
  rw [e4, e3, e2, e1, dv2_str (bytesIn_d hb _), dv2_str (bytesIn_d hb _), dv2_str (bytesIn_d hb _), dv2_str (bytesIn_d hb _), hy]
  rw [decide_eq_true (show 0 ≤ yearI (lv l) by omega), decide_eq_true (show yearI (lv l) ≤ 9999 by omega), decide_eq_true (show 0 ≤ lv (l.drop 6) by omega), decide_eq_true (show 0 ≤ lv (l.drop 8) by omega), decide_eq_true h0]
  simp only [Bool.true_and, Bool.and_true, show decide ((0 : Int) ≤ 0) = true from rfl, show decide ((0 : Int) < 1000000000) = true from rfl, show decide ((-1440 : Int) < 0) = true from rfl, show decide ((0 : Int) < 1440) = true from rfl]
/-- The two sides say the same. -/
theorem utc_same {l : List Int} (hb : bytesIn l) : (utcOk l = true → zoneT (u6L l) = true → uOk (strOfNums l) = true) ∧ (uOk (strOfNums l) = true → utcOk l = true ∧ five l = true ∧ uSec (strOfNums l) = secI l ∧ zV (uR (strOfNums l)) = zoneV (u6L l)) := by
  obtain ⟨e1, e2, e3, e4, e5⟩ := @dr_str l
  have hR4 : uR4 (strOfNums l) = strOfNums (l.drop 10) := e5
  cases hf : five l with
  | false =>
    have hu : uOk (strOfNums l) = false := by
      unfold uOk
      rw [uD_str hb, hf]
      simp
    have ho : utcOk l = false := by
      unfold utcOk
      rw [zoneO_and]
      unfold u6O
      rw [u5O_five, hf]
      simp
    rw [hu, ho]
    exact ⟨fun h => absurd h (by decide), fun h => absurd h (by decide)⟩
  | true =>
    obtain ⟨f1, f2, f3, f4, f5⟩ := rest_of hf
    obtain ⟨a, b, c, d, e⟩ := five_of hf
    have h5 : u5L l = l.drop 10 := f5
    have hb10 := bytesIn_d hb 10
    have hN : yearI (figN 2 l) = yearI (lv l) ∧ figN 2 (u1L l) = lv (l.drop 2) ∧ figN 2 (u2L l) = lv (l.drop 4) ∧ figN 2 (u3L l) = lv (l.drop 6) ∧ figN 2 (u4L l) = lv (l.drop 8) := by
      rw [figN_l a, f1, f2, f3, f4, figN_l b, figN_l c, figN_l d, figN_l e]
      exact ⟨rfl, rfl, rfl, rfl, rfl⟩
    obtain ⟨n1, n2, n3, n4, n5⟩ := hN
    cases hs : l2 (l.drop 10) with
    | true =>
      have hd0 := l2_dig0 hs
      have s6 : u6L l = l.drop 12 := by unfold u6L; rw [h5, if_pos hd0, figL_l hs, List.drop_drop]
      have o6 : u6O l = true := by unfold u6O; rw [h5, if_pos hd0, u5O_five, hf, figO_l, hs]; rfl
      have sI : secI l = lv (l.drop 10) := by unfold secI; rw [h5, if_pos hd0, figN_l hs]
      have rs := lv_range hs
      have iR : uR (strOfNums l) = strOfNums (l.drop 12) := by unfold uR; rw [hR4, dg2_str hb10, hs, if_pos rfl, dr2_str, List.drop_drop]
      have iS : uSec (strOfNums l) = lv (l.drop 10) := by unfold uSec; rw [hR4, dg2_str hb10, hs, if_pos rfl, dv2_str hb10]
      have uo : uOk (strOfNums l) = (rightB (yearI (lv l)) (lv (l.drop 2)) (lv (l.drop 4)) (lv (l.drop 6)) (lv (l.drop 8)) (lv (l.drop 10)) 0 0 && lzOk (l.drop 12)) := by
        unfold uOk
        rw [uD_str hb, hf, hR4, dg2_str hb10, hs, dv2_str hb10, iR, zO_str (bytesIn_d hb _), Bool.not_true, Bool.false_or, Bool.true_and, uB_str hb hf _ (by omega)]
      have so : utcOk l = (zoneO true (l.drop 12) && (zoneL (l.drop 12)).isEmpty && rightB (yearI (lv l)) (lv (l.drop 2)) (lv (l.drop 4)) (lv (l.drop 6)) (lv (l.drop 8)) (lv (l.drop 10)) 0 0) := by
        unfold utcOk
        rw [o6, s6, sI, n1, n2, n3, n4, n5]
      rw [uo, so, s6, iS, sI, iR, zV_str (bytesIn_d hb _)]
      constructor
      · intro h ht
        simp only [Bool.and_eq_true, List.isEmpty_iff] at h ⊢
        exact ⟨h.2, lz_of_zone h.1.1 h.1.2 ht⟩
      · intro h
        simp only [Bool.and_eq_true, List.isEmpty_iff] at h ⊢
        obtain ⟨z1, z2, z3⟩ := zone_of_lz h.2
        exact ⟨⟨⟨z1, z2⟩, h.1⟩, by trivial, by trivial, z3.symm⟩
    | false =>
      have iR : uR (strOfNums l) = strOfNums (l.drop 10) := by unfold uR; rw [hR4, dg2_str hb10, hs, if_neg (by decide)]
      have iS : uSec (strOfNums l) = 0 := by unfold uSec; rw [hR4, dg2_str hb10, hs, if_neg (by decide)]
      have uo : uOk (strOfNums l) = (rightB (yearI (lv l)) (lv (l.drop 2)) (lv (l.drop 4)) (lv (l.drop 6)) (lv (l.drop 8)) 0 0 0 && lzOk (l.drop 10)) := by
        have := uB_str hb hf 0 (by omega)
        rw [show decide ((0 : Int) < 60) = true from rfl, Bool.and_true] at this
        unfold uOk
        rw [uD_str hb, hf, hR4, dg2_str hb10, hs, iR, zO_str hb10, Bool.not_false, Bool.true_or, Bool.and_true, Bool.true_and, this]
      cases hd0 : dig0 (l.drop 10) with
      | true =>
        have ho : utcOk l = false := by
          unfold utcOk
          rw [zoneO_and]
          unfold u6O
          rw [h5, if_pos hd0, figO_l, hs]
          simp
        have hz : lzOk (l.drop 10) = false := by
          cases hz : lzOk (l.drop 10) with
          | false => rfl
          | true => rw [head_lz hz] at hd0; cases hd0
        rw [uo, ho, hz, Bool.and_false]
        exact ⟨fun h => absurd h (by decide), fun h => absurd h (by decide)⟩
      | false =>
        have nd : ¬ dig0 (l.drop 10) = true := by rw [hd0]; decide
        have s6 : u6L l = l.drop 10 := by unfold u6L; rw [h5, if_neg nd]
        have o6 : u6O l = true := by unfold u6O; rw [h5, if_neg nd, u5O_five, hf]
        have sI : secI l = 0 := by unfold secI; rw [h5, if_neg nd]
        have so : utcOk l = (zoneO true (l.drop 10) && (zoneL (l.drop 10)).isEmpty && rightB (yearI (lv l)) (lv (l.drop 2)) (lv (l.drop 4)) (lv (l.drop 6)) (lv (l.drop 8)) 0 0 0) := by
          unfold utcOk
          rw [o6, s6, sI, n1, n2, n3, n4, n5]
        rw [uo, so, s6, iS, sI, iR, zV_str hb10]
        constructor
        · intro h ht
          simp only [Bool.and_eq_true, List.isEmpty_iff] at h ⊢
          exact ⟨h.2, lz_of_zone h.1.1 h.1.2 ht⟩
        · intro h
          simp only [Bool.and_eq_true, List.isEmpty_iff] at h ⊢
          obtain ⟨z1, z2, z3⟩ := zone_of_lz h.2
          exact ⟨⟨⟨z1, z2⟩, h.1⟩, by trivial, by trivial, z3.symm⟩
theorem utc_const : impl_ReadUTC.f [57, 49, 48, 53, 48, 54, 50, 51, 52, 53, 52, 48, 90] = some (1991, 5, 6, 23, 45, 40, 0, 0, true) := by
  have hb : bytesIn [57, 49, 48, 53, 48, 54, 50, 51, 52, 53, 52, 48, 90] := by unfold bytesIn; decide
  have ho : uOk (strOfNums [57, 49, 48, 53, 48, 54, 50, 51, 52, 53, 52, 48, 90]) = true := by
    refine (utc_same hb).1 ?_ ?_ <;> decide
  obtain ⟨h1, h2, h3, h4⟩ := (utc_same hb).2 ho
  obtain ⟨e1, e2, e3, e4, e5⟩ := @dr_str [57, 49, 48, 53, 48, 54, 50, 51, 52, 53, 52, 48, 90]
  unfold impl_ReadUTC.f
  rw [if_pos (by decide), if_pos ho, e4, e3, e2, e1, h3, h4, (year_same hb (by decide)).1, dv2_str (bytesIn_d hb _), dv2_str (bytesIn_d hb _), dv2_str (bytesIn_d hb _), dv2_str (bytesIn_d hb _)]
  simp only [Option.some.injEq, Prod.mk.injEq]
  refine ⟨?_, ?_, ?_, ?_, ?_, ?_, ?_, ?_, ?_⟩ <;> first | rfl | decide
end Go.Proofs.Ytmiemfgcggkbnaa.Pure
