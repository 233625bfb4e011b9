/- Plain facts: what the reference takes for a GeneralizedTime and what the package takes for one are the same. No memory and no walk. -/
import Derived.Test.YtmiemfgcggkbnaaQGx3
import Derived.Test.YtmiemfgcggkbnaaQGx7
set_option linter.unusedSimpArgs false
set_option linter.unusedVariables false
namespace Go.Proofs.Ytmiemfgcggkbnaa.Pure
open Go.RowKit Go.Proofs.Ytmiemfgcggkbnaa.QG Go.Proofs.YtmiemfgcggkbnaaW.PrintWords Go.Proofs.YtmiemfgcggkbnaaW.PrintLast
theorem wf_byte {x : Int} (h : (Lit.int .u8 x).wf = true) : 0 ≤ x ∧ x ≤ 255 := by
  simpa [Lit.wf, IntKind.min, IntKind.max, IntKind.signed, IntKind.bits] using h
theorem bt_str {l : List Int} (hb : bytesIn l) (i : Int) : bt (strOfNums l) i = rd l i := by
  unfold bt rd
  have hsz := strOfNums_size l
  by_cases h : i.toNat < l.length
  · rw [dif_pos (by rw [hsz]; exact h), List.getD_eq_getElem?_getD, List.getElem?_eq_getElem h]
    have hx := hb _ (List.getElem_mem h)
    have : (strOfNums l)[i.toNat]'(by rw [hsz]; exact h) = UInt8.ofNat (l[i.toNat]).toNat := by
      rw [ByteArray.getElem_eq_getElem_data]
      simp [strOfNums]
    rw [this]
    simp only [Option.getD_some]
    rw [UInt8.toNat_ofNat']
    omega
  · rw [dif_neg (by rw [hsz]; exact h), List.getD_eq_getElem?_getD, List.getElem?_eq_none (by omega)]
    rfl
theorem ext_str (l : List Int) (n : Nat) : (strOfNums l).extract n (strOfNums l).size = strOfNums (l.drop n) := by
  apply ByteArray.ext
  rw [ByteArray.data_extract]
  apply Array.ext'
  rw [strOfNums_size]
  show ((l.map fun n => UInt8.ofNat n.toNat).toArray.extract n l.length).toList = _
  rw [strOfNums_data]
  simp
  rw [List.take_of_length_le (by simp)]
theorem toList_str (l : List Int) : (strOfNums l).toList = l.map fun n => UInt8.ofNat n.toNat := by
  unfold strOfNums
  rw [show (ByteArray.mk (l.map fun n => UInt8.ofNat n.toNat).toArray) = ByteArray.mk ⟨l.map fun n => UInt8.ofNat n.toNat⟩ from rfl, ByteArray.toList_mk]
theorem list90 {l : List Int} (hb : bytesIn l) : (strOfNums l).toList = ([90] : List UInt8) ↔ l = [90] := by
  rw [toList_str]
  constructor
  · intro h
    match l, h with
    | [], h => cases h
    | [x], h =>
      simp only [List.map_cons, List.map_nil, List.cons.injEq, and_true] at h
      have hx := hb x (by simp)
      have := congrArg UInt8.toNat h
      rw [UInt8.toNat_ofNat'] at this
      have h90 : (90 : UInt8).toNat = 90 := rfl
      rw [h90] at this
      have : x = 90 := by omega
      rw [this]
    | _ :: _ :: _, h => simp at h
  · rintro rfl
    rfl
/-- Two figures at the front. -/
def l1 (l : List Int) (i : Int) : Bool := decide (48 ≤ rd l i) && decide (rd l i ≤ 57)
def l2 (l : List Int) : Bool := decide (2 ≤ l.length) && l1 l 0 && l1 l 1
def lv (l : List Int) : Int := 10 * (rd l 0 - 48) + (rd l 1 - 48)
theorem dg2_str {l : List Int} (hb : bytesIn l) : dg2 (strOfNums l) = l2 l := by
  unfold dg2 l2 d1 l1
  rw [strOfNums_size, bt_str hb, bt_str hb]
theorem dv2_str {l : List Int} (hb : bytesIn l) : dv2 (strOfNums l) = lv l := by
  unfold dv2 lv
  rw [bt_str hb, bt_str hb]
theorem dr2_str (l : List Int) : dr2 (strOfNums l) = strOfNums (l.drop 2) := ext_str l 2
theorem lv_range {l : List Int} (h : l2 l = true) : 0 ≤ lv l ∧ lv l ≤ 99 := by
  simp only [l2, l1, Bool.and_eq_true, decide_eq_true_eq] at h
  unfold lv
  omega
theorem take2 {l : List Int} (h : 2 ≤ l.length) : l.take 2 = [rd l 0, rd l 1] := by
  match l, h with
  | x :: y :: r, _ => rfl
theorem figO_l (l : List Int) : figO 2 l = l2 l := by
  unfold figO l2
  by_cases h : l.length < 2
  · rw [if_pos h, decide_eq_false (by omega)]
    rfl
  · rw [if_neg h, decide_eq_true (by omega), take2 (by omega)]
    simp [figD, l1]
theorem figN_l {l : List Int} (h : l2 l = true) : figN 2 l = lv l := by
  have h2 : 2 ≤ l.length := by
    simp only [l2, Bool.and_eq_true, decide_eq_true_eq] at h
    exact h.1.1
  unfold figN
  rw [if_neg (by omega), take2 h2]
  simp only [figV, List.foldl_cons, List.foldl_nil]
  unfold lv
  omega
theorem figL_l {l : List Int} (h : l2 l = true) : figL 2 l = l.drop 2 := by
  have h2 : 2 ≤ l.length := by
    simp only [l2, Bool.and_eq_true, decide_eq_true_eq] at h
    exact h.1.1
  unfold figL
  rw [if_neg (by omega)]
theorem bytesIn_d {l : List Int} (h : bytesIn l) (n : Nat) : bytesIn (l.drop n) := fun x hx => h x (List.mem_of_mem_drop hx)
/-- A zone, read by the package: Z, or a sign and hours (to 24) and minutes, not all 0. -/
def lzOk (l : List Int) : Bool := decide (l = [90]) || (decide (l.length = 5) && (rd l 0 == 43 || rd l 0 == 45) && l2 (l.drop 1) && l2 (l.drop 3) && decide (lv (l.drop 1) ≤ 24) && decide (lv (l.drop 3) ≤ 59) && !(lv (l.drop 1) * 60 + lv (l.drop 3) == 0))
def lzV (l : List Int) : Int := if l = [90] then 0 else if lzOk l = true then (if rd l 0 = 45 then -(lv (l.drop 1) * 60 + lv (l.drop 3)) else lv (l.drop 1) * 60 + lv (l.drop 3)) else 0
theorem zO_str {l : List Int} (hb : bytesIn l) : zO (strOfNums l) = lzOk l := by
  unfold zO lzOk zN
  rw [ext_str l 1, dr2_str, List.drop_drop, strOfNums_size, bt_str hb, dg2_str (bytesIn_d hb _), dg2_str (bytesIn_d hb _), dv2_str (bytesIn_d hb _), dv2_str (bytesIn_d hb _)]
  have : ((strOfNums l).toList == ([90] : List UInt8)) = decide (l = [90]) := by
    rw [Bool.eq_iff_iff, beq_iff_eq, decide_eq_true_eq]
    exact list90 hb
  rw [this]
theorem zV_str {l : List Int} (hb : bytesIn l) : zV (strOfNums l) = lzV l := by
  unfold zV lzV zN
  rw [zO_str hb, ext_str l 1, dr2_str, List.drop_drop, bt_str hb, dv2_str (bytesIn_d hb _), dv2_str (bytesIn_d hb _)]
  by_cases h : l = [90]
  · rw [if_pos ((list90 hb).2 h), if_pos h]
  · rw [if_neg (fun h' => h ((list90 hb).1 h')), if_neg h]
theorem zoneO_and (ok : Bool) (l : List Int) : zoneO ok l = (ok && zoneO true l) := by
  unfold zoneO
  by_cases h : nextB 90 l = true
  · rw [if_pos h, if_pos h]; simp
  · rw [if_neg h, if_neg h]
    cases ok <;> simp
theorem l2_len {l : List Int} (h : l2 l = true) : 2 ≤ l.length := by
  simp only [l2, Bool.and_eq_true, decide_eq_true_eq] at h
  exact h.1.1
theorem zone_of_lz {l : List Int} (h : lzOk l = true) : zoneO true l = true ∧ zoneL l = [] ∧ zoneV l = lzV l := by
  by_cases hz : l = [90]
  · subst hz
    exact ⟨rfl, rfl, rfl⟩
  have hv : lzV l = if rd l 0 = 45 then -(lv (l.drop 1) * 60 + lv (l.drop 3)) else lv (l.drop 1) * 60 + lv (l.drop 3) := by
    unfold lzV
    rw [if_neg hz, if_pos h]
  rw [hv]
  simp only [lzOk, decide_eq_false hz, Bool.false_or, Bool.and_eq_true, decide_eq_true_eq, Bool.or_eq_true, beq_iff_eq, Bool.not_eq_true', beq_eq_false_iff_ne] at h
  obtain ⟨⟨⟨⟨⟨⟨h5, hc⟩, ha⟩, hb⟩, h24⟩, h59⟩, hn⟩ := h
  match l, h5 with
  | c :: r, h5 =>
    have e3 : (c :: r).drop 3 = r.drop 2 := rfl
    have e1 : (c :: r).drop 1 = r := rfl
    have e0 : rd (c :: r) 0 = c := rfl
    rw [e1] at ha h24 hn
    rw [e3] at hb h59 hn
    rw [e0] at hc
    rw [e0, e1, e3]
    have ra := lv_range ha
    have rb := lv_range hb
    have n90 : nextB 90 (c :: r) = false := beq_eq_false_iff_ne.mpr (by omega)
    have zr : zRest (c :: r) = r := by
      unfold zRest
      rw [if_pos (by rcases hc with rfl | rfl <;> rfl)]
      rfl
    have fl : figL 2 r = r.drop 2 := figL_l ha
    have fl2 : figL 2 (r.drop 2) = (r.drop 2).drop 2 := figL_l hb
    refine ⟨?_, ?_, ?_⟩
    · unfold zoneO
      rw [n90, if_neg (by decide), zr, fl, figO_l, figO_l, ha, hb, figN_l ha, figN_l hb, decide_eq_true (by omega), decide_eq_true (by omega)]
      rcases hc with rfl | rfl <;> rfl
    · unfold zoneL
      rw [n90, if_neg (by decide), zr, fl, fl2]
      simp at h5
      apply List.eq_nil_of_length_eq_zero
      simp
      omega
    · unfold zoneV
      rw [n90, if_neg (by decide), zr, fl, figN_l ha, figN_l hb]
      by_cases h45 : c = 45
      · subst h45
        rw [if_pos (show nextB 45 (45 :: r) = true from rfl), if_pos rfl]
        omega
      · rw [if_neg (show ¬ nextB 45 (c :: r) = true from by intro h; exact h45 (beq_iff_eq.mp h)), if_neg h45]
        omega
theorem lz_of_zone {l : List Int} (h1 : zoneO true l = true) (h2 : zoneL l = []) (h3 : zoneT l = true) : lzOk l = true := by
  cases h90 : nextB 90 l with
  | true =>
    match l, h90 with
    | c :: r, h90 =>
      have hc : c = 90 := beq_iff_eq.mp h90
      have hr : r = [] := by
        have : zoneL (c :: r) = r := by unfold zoneL; rw [h90, if_pos rfl]; rfl
        rw [← this]; exact h2
      subst hc; subst hr
      rfl
  | false =>
    unfold zoneO at h1
    unfold zoneL at h2
    unfold zoneT at h3
    rw [h90, if_neg (by decide)] at h1 h2 h3
    simp only [Bool.and_eq_true, Bool.or_eq_true, decide_eq_true_eq, Bool.true_and] at h1
    obtain ⟨⟨⟨⟨hs, ha⟩, hb⟩, hm⟩, hp⟩ := h1
    match l, hs with
    | c :: r, hs =>
      have hc : c = 45 ∨ c = 43 := by
        rcases hs with hs | hs
        · exact .inl (beq_iff_eq.mp hs)
        · exact .inr (beq_iff_eq.mp hs)
      have zr : zRest (c :: r) = r := by
        unfold zRest
        rw [if_pos (by rcases hc with rfl | rfl <;> rfl)]
        rfl
      rw [zr] at ha hb hm hp h2 h3
      rw [figO_l] at ha
      have fl : figL 2 r = r.drop 2 := figL_l ha
      rw [fl, figO_l] at hb
      have fl2 : figL 2 (r.drop 2) = (r.drop 2).drop 2 := figL_l hb
      rw [fl, fl2] at h2
      rw [fl, figN_l hb] at hm hp
      rw [figN_l ha] at hp h3
      have hlen := l2_len hb
      have ra := lv_range ha
      have rb := lv_range hb
      have hl0 := congrArg List.length h2
      simp at hl0 hlen
      have h3' := of_decide_eq_true h3
      unfold lzOk
      have e3 : (c :: r).drop 3 = r.drop 2 := rfl
      have e1 : (c :: r).drop 1 = r := rfl
      have e0 : rd (c :: r) 0 = c := rfl
      rw [e1, e3, e0, ha, hb, decide_eq_true (show (c :: r).length = 5 by simp; omega), decide_eq_true (show lv r ≤ 24 by omega), decide_eq_true (show lv (r.drop 2) ≤ 59 by omega), beq_eq_false_iff_ne.mpr (show lv r * 60 + lv (r.drop 2) ≠ 0 by omega)]
      rcases hc with rfl | rfl <;> simp
theorem head_lz {l : List Int} (h : lzOk l = true) : dig0 l = false := by
  by_cases hz : l = [90]
  · subst hz; rfl
  · simp only [lzOk, decide_eq_false hz, Bool.false_or, Bool.and_eq_true, Bool.or_eq_true, beq_iff_eq] at h
    have hc := h.1.1.1.1.1.2
    cases hd : dig0 l with
    | false => rfl
    | true =>
      simp only [dig0, Bool.and_eq_true, decide_eq_true_eq] at hd
      omega
theorem l2_dig0 {l : List Int} (h : l2 l = true) : dig0 l = true := by
  have h2 := l2_len h
  simp only [l2, l1, Bool.and_eq_true, decide_eq_true_eq] at h
  simp only [dig0, Bool.and_eq_true, decide_eq_true_eq]
  omega
/-- Four figures at the front. -/
def l4 (l : List Int) : Bool := decide (4 ≤ l.length) && l1 l 0 && l1 l 1 && l1 l 2 && l1 l 3
def lv4 (l : List Int) : Int := 1000 * (rd l 0 - 48) + 100 * (rd l 1 - 48) + 10 * (rd l 2 - 48) + (rd l 3 - 48)
theorem dg4_str {l : List Int} (hb : bytesIn l) : dg4 (strOfNums l) = l4 l := by
  unfold dg4 l4 d1 l1
  rw [strOfNums_size, bt_str hb, bt_str hb, bt_str hb, bt_str hb]
theorem dv4_str {l : List Int} (hb : bytesIn l) : dv4 (strOfNums l) = lv4 l := by
  unfold dv4 lv4
  rw [bt_str hb, bt_str hb, bt_str hb, bt_str hb]
theorem dr4_str (l : List Int) : dr4 (strOfNums l) = strOfNums (l.drop 4) := ext_str l 4
theorem lv4_range {l : List Int} (h : l4 l = true) : 0 ≤ lv4 l ∧ lv4 l ≤ 9999 := by
  simp only [l4, l1, Bool.and_eq_true, decide_eq_true_eq] at h
  unfold lv4
  omega
theorem take4 {l : List Int} (h : 4 ≤ l.length) : l.take 4 = [rd l 0, rd l 1, rd l 2, rd l 3] := by
  match l, h with
  | x :: y :: z :: u :: r, _ => rfl
theorem figO4_l (l : List Int) : figO 4 l = l4 l := by
  unfold figO l4
  by_cases h : l.length < 4
  · rw [if_pos h, decide_eq_false (by omega)]
    rfl
  · rw [if_neg h, decide_eq_true (by omega), take4 (by omega)]
    simp [figD, l1, Bool.and_assoc]
theorem l4_len {l : List Int} (h : l4 l = true) : 4 ≤ l.length := by
  simp only [l4, Bool.and_eq_true, decide_eq_true_eq] at h
  exact h.1.1.1.1
theorem figN4_l {l : List Int} (h : l4 l = true) : figN 4 l = lv4 l := by
  have h2 := l4_len h
  unfold figN
  rw [if_neg (by omega), take4 h2]
  simp only [figV, List.foldl_cons, List.foldl_nil]
  unfold lv4
  omega
theorem figL4_l {l : List Int} (h : l4 l = true) : figL 4 l = l.drop 4 := by
  have h2 := l4_len h
  unfold figL
  rw [if_neg (by omega)]
/-- The year and all five pairs of figures. -/
def six (l : List Int) : Bool := l4 l && l2 (l.drop 4) && l2 (l.drop 6) && l2 (l.drop 8) && l2 (l.drop 10) && l2 (l.drop 12)
theorem six_of {l : List Int} (h : six l = true) : l4 l = true ∧ l2 (l.drop 4) = true ∧ l2 (l.drop 6) = true ∧ l2 (l.drop 8) = true ∧ l2 (l.drop 10) = true ∧ l2 (l.drop 12) = true := by
  simp only [six, Bool.and_eq_true] at h
  exact ⟨h.1.1.1.1.1, h.1.1.1.1.2, h.1.1.1.2, h.1.1.2, h.1.2, h.2⟩
theorem rest6_of {l : List Int} (h : six l = true) : x1L l = l.drop 4 ∧ x2L l = l.drop 6 ∧ x3L l = l.drop 8 ∧ x4L l = l.drop 10 ∧ x5L l = l.drop 12 ∧ x6L l = l.drop 14 := by
  obtain ⟨a, b, c, d, e, f⟩ := six_of h
  have e1 : x1L l = l.drop 4 := figL4_l a
  have e2 : x2L l = l.drop 6 := by unfold x2L; rw [e1, figL_l b, List.drop_drop]
  have e3 : x3L l = l.drop 8 := by unfold x3L; rw [e2, figL_l c, List.drop_drop]
  have e4 : x4L l = l.drop 10 := by unfold x4L; rw [e3, figL_l d, List.drop_drop]
  have e5 : x5L l = l.drop 12 := by unfold x5L; rw [e4, figL_l e, List.drop_drop]
  have e6 : x6L l = l.drop 14 := by unfold x6L; rw [e5, figL_l f, List.drop_drop]
  exact ⟨e1, e2, e3, e4, e5, e6⟩
theorem x6O_six (l : List Int) : x6O l = six l := by
  unfold x6O six
  rw [figO4_l, figO_l, figO_l, figO_l, figO_l, figO_l]
  cases a : l4 l with
  | false => simp
  | true =>
    have e1 : x1L l = l.drop 4 := figL4_l a
    rw [e1]
    cases b : l2 (l.drop 4) with
    | false => simp
    | true =>
      have e2 : x2L l = l.drop 6 := by unfold x2L; rw [e1, figL_l b, List.drop_drop]
      rw [e2]
      cases c : l2 (l.drop 6) with
      | false => simp
      | true =>
        have e3 : x3L l = l.drop 8 := by unfold x3L; rw [e2, figL_l c, List.drop_drop]
        rw [e3]
        cases d : l2 (l.drop 8) with
        | false => simp
        | true =>
          have e4 : x4L l = l.drop 10 := by unfold x4L; rw [e3, figL_l d, List.drop_drop]
          rw [e4]
          cases e : l2 (l.drop 10) with
          | false => simp
          | true =>
            have e5 : x5L l = l.drop 12 := by unfold x5L; rw [e4, figL_l e, List.drop_drop]
            rw [e5]
            simp
theorem drg_str {l : List Int} : dr4 (strOfNums l) = strOfNums (l.drop 4) ∧ dr2 (dr4 (strOfNums l)) = strOfNums (l.drop 6) ∧ dr2 (dr2 (dr4 (strOfNums l))) = strOfNums (l.drop 8) ∧ dr2 (dr2 (dr2 (dr4 (strOfNums l)))) = strOfNums (l.drop 10) ∧ gR4 (strOfNums l) = strOfNums (l.drop 12) ∧ gR5 (strOfNums l) = strOfNums (l.drop 14) := by
  have e1 := dr4_str l
  have e2 : dr2 (dr4 (strOfNums l)) = strOfNums (l.drop 6) := by rw [e1, dr2_str, List.drop_drop]
  have e3 : dr2 (dr2 (dr4 (strOfNums l))) = strOfNums (l.drop 8) := by rw [e2, dr2_str, List.drop_drop]
  have e4 : dr2 (dr2 (dr2 (dr4 (strOfNums l)))) = strOfNums (l.drop 10) := by rw [e3, dr2_str, List.drop_drop]
  have e5 : gR4 (strOfNums l) = strOfNums (l.drop 12) := by unfold gR4; rw [e4, dr2_str, List.drop_drop]
  have e6 : gR5 (strOfNums l) = strOfNums (l.drop 14) := by unfold gR5; rw [e5, dr2_str, List.drop_drop]
  exact ⟨e1, e2, e3, e4, e5, e6⟩
theorem gD_str {l : List Int} (hb : bytesIn l) : (dg4 (strOfNums l) && gD (strOfNums l) && dg2 (gR4 (strOfNums l))) = six l := by
  obtain ⟨e1, e2, e3, e4, e5, e6⟩ := @drg_str l
  unfold gD six
  rw [e5, e4, e3, e2, e1, dg4_str hb, dg2_str (bytesIn_d hb _), dg2_str (bytesIn_d hb _), dg2_str (bytesIn_d hb _), dg2_str (bytesIn_d hb _), dg2_str (bytesIn_d hb _)]
  cases l4 l <;> cases l2 (l.drop 4) <;> cases l2 (l.drop 6) <;> cases l2 (l.drop 8) <;> cases l2 (l.drop 10) <;> cases l2 (l.drop 12) <;> rfl
theorem gB_str {l : List Int} (hb : bytesIn l) (h : six l = true) (na : Int) (h0 : 0 ≤ na ∧ na < 1000000000) : (gB (strOfNums l) && decide (dv2 (gR4 (strOfNums l)) < 60)) = rightB (lv4 l) (lv (l.drop 4)) (lv (l.drop 6)) (lv (l.drop 8)) (lv (l.drop 10)) (lv (l.drop 12)) na 0 := by
  obtain ⟨e1, e2, e3, e4, e5, e6⟩ := @drg_str l
  obtain ⟨a, b, c, d, e, f⟩ := six_of h
  have ry := lv4_range a
  have rd' := lv_range d
  have re := lv_range e
  have rf := lv_range f
  unfold gB dateB rightB
  rw [e5, e4, e3, e2, e1, dv4_str hb, dv2_str (bytesIn_d hb _), dv2_str (bytesIn_d hb _), dv2_str (bytesIn_d hb _), dv2_str (bytesIn_d hb _), dv2_str (bytesIn_d hb _)]
  rw [decide_eq_true (show 0 ≤ lv4 l by omega), decide_eq_true (show lv4 l ≤ 9999 by omega), decide_eq_true (show 0 ≤ lv (l.drop 8) by omega), decide_eq_true (show 0 ≤ lv (l.drop 10) by omega), decide_eq_true (show 0 ≤ lv (l.drop 12) by omega), decide_eq_true h0.1, decide_eq_true h0.2]
  simp only [Bool.true_and, Bool.and_true, show decide ((-1440 : Int) < 0) = true from rfl, show decide ((0 : Int) < 1440) = true from rfl]
/-- The part of a second. -/
theorem gP_str {m : List Int} (hb : bytesIn m) : gP (strOfNums m) = nextB 46 m := by
  unfold gP
  rw [strOfNums_size, bt_str hb]
  cases m with
  | nil => rfl
  | cons x r =>
    rw [show rd (x :: r) 0 = x from rfl]
    simp [nextB]
theorem rd_succ (x : Int) (r : List Int) (j : Nat) : rd (x :: r) ((j + 1 : Nat) : Int) = rd r (j : Int) := by
  unfold rd
  rw [Int.toNat_natCast, Int.toNat_natCast]
  rfl
theorem rd_drop1 (r : List Int) (j : Nat) : rd (r.drop 1) (j : Int) = rd r ((j + 1 : Nat) : Int) := by
  cases r with
  | nil => unfold rd; simp
  | cons x r => rw [rd_succ]; rfl
theorem gN_char : ∀ (k : Nat) (r : List Int) (n : Nat), n ≤ r.length → (∀ j : Nat, j < n → 48 ≤ rd r (j : Int) ∧ rd r (j : Int) ≤ 57) → (n = r.length ∨ rd r (n : Int) < 48 ∨ 57 < rd r (n : Int)) → gN k r = min k n
  | 0, r, n, _, _, _ => by simp [gN]
  | k + 1, r, n, h1, h2, h3 => by
    simp only [gN]
    cases n with
    | zero =>
      have hd : ¬ dig0 r = true := by
        intro hd
        simp only [dig0, Bool.and_eq_true, decide_eq_true_eq] at hd
        rcases h3 with h | h | h
        · omega
        · have : rd r ((0 : Nat) : Int) = rd r 0 := rfl
          omega
        · have : rd r ((0 : Nat) : Int) = rd r 0 := rfl
          omega
      rw [if_neg hd]
      omega
    | succ n =>
      have h0 := h2 0 (by omega)
      have hd : dig0 r = true := by
        simp only [dig0, Bool.and_eq_true, decide_eq_true_eq]
        exact ⟨⟨by omega, h0.1⟩, h0.2⟩
      rw [if_pos hd, gN_char k (r.drop 1) n (by simp; omega) (fun j hj => by rw [rd_drop1]; exact h2 (j + 1) (by omega)) (by
        rw [rd_drop1, List.length_drop]
        rcases h3 with h | h | h
        · exact .inl (by omega)
        · exact .inr (.inl h)
        · exact .inr (.inr h))]
      omega
theorem frV_fig {x : Int} {r : List Int} (hb : bytesIn (x :: r)) (c : Nat) : ∀ k, k ≤ c → c ≤ r.length → frV (strOfNums (x :: r)) (c + 1) k = figV (r.take k)
  | 0, _, _ => by simp [frV, figV]
  | k + 1, h1, h2 => by
    have ih := frV_fig hb c k (by omega) h2
    rw [frV_dig (by omega), ih, bt_str hb, rd_succ, rd_take r k (by omega), figV_snoc]
    omega
theorem frV_ten (s : ByteArray) (c : Nat) : ∀ d k, c ≤ k + 1 → frV s c (k + d) = frV s c k * 10 ^ d
  | 0, k, _ => by simp
  | d + 1, k, h => by
    rw [show k + (d + 1) = (k + d) + 1 by omega, frV_pad (by omega), frV_ten s c d k h, Int.pow_succ, Int.mul_assoc]
theorem frV_nine {x : Int} {r : List Int} (hb : bytesIn (x :: r)) (c : Nat) (h : c ≤ 9) (h2 : c ≤ r.length) : frV (strOfNums (x :: r)) (c + 1) 9 = figV (r.take c) * 10 ^ (9 - c) := by
  have := frV_ten (strOfNums (x :: r)) (c + 1) (9 - c) c (by omega)
  rw [show c + (9 - c) = 9 by omega] at this
  rw [this, frV_fig hb c c (Nat.le_refl _) h2]
/-- The figures behind the point, on both sides. -/
theorem frac_same {r : List Int} (hb : bytesIn (46 :: r)) : ∃ c : Nat, gC (strOfNums (46 :: r)) = c + 1 ∧ c ≤ r.length ∧ gN 10 r = min 10 c ∧ (∀ j : Nat, j < c → 48 ≤ rd r (j : Int) ∧ rd r (j : Int) ≤ 57) ∧ gF (strOfNums (46 :: r)) = (decide (0 < c) && decide (c < 10) && decide (0 < lastI r c)) := by
  obtain ⟨a1, a2, a3, a4⟩ := cntD_spec (strOfNums (46 :: r)) (strOfNums (46 :: r)).size 1 (by rw [strOfNums_size]; simp) (by omega)
  obtain ⟨c, hc⟩ : ∃ c, gC (strOfNums (46 :: r)) = c + 1 := ⟨gC (strOfNums (46 :: r)) - 1, by unfold gC; omega⟩
  have hc' : cntD (strOfNums (46 :: r)) (strOfNums (46 :: r)).size 1 = c + 1 := hc
  rw [hc', strOfNums_size] at a2 a4
  rw [hc'] at a3
  have hlen : (46 :: r).length = r.length + 1 := rfl
  have hdig : ∀ j : Nat, j < c → 48 ≤ rd r (j : Int) ∧ rd r (j : Int) ≤ 57 := by
    intro j hj
    have := a3 (j + 1) (by omega) (by omega)
    rw [bt_str hb, rd_succ] at this
    exact this
  refine ⟨c, hc, by omega, ?_, hdig, ?_⟩
  · refine gN_char 10 r c (by omega) hdig ?_
    rw [bt_str hb, rd_succ] at a4
    rcases a4 with h | h
    · exact .inl (by omega)
    · exact .inr h
  · unfold gF
    rw [hc, show ((c + 1 : Nat) : Int) - 1 = (c : Int) by omega, bt_str hb]
    cases c with
    | zero => simp
    | succ n =>
      have hn := hdig n (by omega)
      rw [rd_succ]
      unfold lastI
      rw [if_neg (by omega), show n + 1 - 1 = n by omega]
      by_cases h48 : rd r (n : Int) = 48
      · rw [h48]
        simp
      · have h1 : ((rd r (n : Int)) == 48) = false := beq_eq_false_iff_ne.mpr h48
        rw [h1, decide_eq_true (show 0 < rd r (n : Int) - 48 by omega)]
        simp
        omega
/-- The two sides say the same. -/
theorem gen_same {l : List Int} (hb : bytesIn l) : (genOk l = true → zoneT (x8L l) = true → gOk (strOfNums l) = true) ∧ (gOk (strOfNums l) = true → genOk l = true ∧ six l = true ∧ gNa (strOfNums l) = naI l ∧ zV (gRst (strOfNums l)) = zoneV (x8L l)) := by
  obtain ⟨e1, e2, e3, e4, e5, e6⟩ := @drg_str l
  have go : gOk (strOfNums l) = (six l && (gB (strOfNums l) && decide (dv2 (gR4 (strOfNums l)) < 60)) && (!(gP (gR5 (strOfNums l))) || gF (gR5 (strOfNums l))) && zO (gRst (strOfNums l))) := by
    rw [← gD_str hb]
    unfold gOk
    cases dg4 (strOfNums l) <;> cases gD (strOfNums l) <;> cases gB (strOfNums l) <;> cases dg2 (gR4 (strOfNums l)) <;> simp
  have so0 : genOk l = (x8O l && (zoneO true (x8L l) && (zoneL (x8L l)).isEmpty && rightB (figN 4 l) (figN 2 (x1L l)) (figN 2 (x2L l)) (figN 2 (x3L l)) (figN 2 (x4L l)) (figN 2 (x5L l)) (naI l) 0)) := by
    unfold genOk
    rw [zoneO_and]
    simp only [Bool.and_assoc]
  cases hf : six l with
  | false =>
    have ho : genOk l = false := by
      rw [so0]
      unfold x8O
      rw [x6O_six, hf]
      simp
    rw [go, hf, ho]
    exact ⟨fun h => absurd h (by decide), fun h => absurd h (by simp)⟩
  | true =>
    obtain ⟨f1, f2, f3, f4, f5, f6⟩ := rest6_of hf
    obtain ⟨a, b, c, d, e, f⟩ := six_of hf
    have hb14 := bytesIn_d hb 14
    have hN : figN 4 l = lv4 l ∧ figN 2 (x1L l) = lv (l.drop 4) ∧ figN 2 (x2L l) = lv (l.drop 6) ∧ figN 2 (x3L l) = lv (l.drop 8) ∧ figN 2 (x4L l) = lv (l.drop 10) ∧ figN 2 (x5L l) = lv (l.drop 12) := by
      rw [figN4_l a, f1, f2, f3, f4, f5, figN_l b, figN_l c, figN_l d, figN_l e, figN_l f]
      exact ⟨rfl, rfl, rfl, rfl, rfl, rfl⟩
    obtain ⟨n1, n2, n3, n4, n5, n6⟩ := hN
    rw [n1, n2, n3, n4, n5, n6] at so0
    -- what is left to say, once the part of a second is known
    have fin : ∀ (m : List Int) (na : Int), bytesIn m → (0 ≤ na ∧ na < 1000000000) → x8L l = m → x8O l = true → naI l = na → (!(gP (gR5 (strOfNums l))) || gF (gR5 (strOfNums l))) = true → gRst (strOfNums l) = strOfNums m → gNa (strOfNums l) = na → (genOk l = true → zoneT (x8L l) = true → gOk (strOfNums l) = true) ∧ (gOk (strOfNums l) = true → genOk l = true ∧ True ∧ gNa (strOfNums l) = naI l ∧ zV (gRst (strOfNums l)) = zoneV (x8L l)) := by
      intro m na hm hna i1 i2 i3 i4 i5 i6
      rw [i2, i1, i3] at so0
      rw [gB_str hb hf na hna, hf, i4, i5, zO_str hm] at go
      rw [so0, go, i1, i5, zV_str hm, i3, i6]
      constructor
      · intro h ht
        simp only [Bool.and_eq_true, List.isEmpty_iff, Bool.true_and, Bool.and_true] at h ⊢
        exact ⟨h.2, lz_of_zone h.1.1 h.1.2 ht⟩
      · intro h
        simp only [Bool.and_eq_true, List.isEmpty_iff, Bool.true_and, Bool.and_true] at h ⊢
        obtain ⟨z1, z2, z3⟩ := zone_of_lz h.2
        exact ⟨⟨⟨z1, z2⟩, h.1⟩, trivial, by trivial, z3.symm⟩
    simp only [show (true = true) = True from eq_self true]
    cases hp : nextB 46 (l.drop 14) with
    | false =>
      have hg : gP (gR5 (strOfNums l)) = false := by rw [e6, gP_str hb14, hp]
      have np : ¬ nextB 46 (x6L l) = true := by rw [f6, hp]; decide
      have ng : ¬ gP (gR5 (strOfNums l)) = true := by rw [hg]; decide
      exact fin (l.drop 14) 0 hb14 (by omega) (by unfold x8L; rw [if_neg np, f6]) (by unfold x8O; rw [if_neg np, x6O_six, hf]) (by unfold naI; rw [if_neg np]) (by rw [hg]; rfl) (by unfold gRst; rw [if_neg ng, e6]) (by unfold gNa; rw [if_neg ng])
    | true =>
      have hg : gP (gR5 (strOfNums l)) = true := by rw [e6, gP_str hb14, hp]
      have pp : nextB 46 (x6L l) = true := by rw [f6, hp]
      match hm : l.drop 14, hp with
      | y :: r, hp =>
        have hy : y = 46 := beq_iff_eq.mp hp
        subst hy
        rw [hm] at hb14 e6 f6
        obtain ⟨c, g1, g2, g3, g4, g5⟩ := frac_same hb14
        have xd : (x6L l).drop 1 = r := by rw [f6]; rfl
        have hx : x8O l = (decide (0 < min 10 c) && decide (min 10 c < 10) && decide (0 < lastI r (min 10 c))) := by
          unfold x8O xN
          rw [if_pos pp, xd, g3, x6O_six, hf]
          simp only [Bool.true_and]
        cases hF : gF (strOfNums (46 :: r)) with
        | false =>
          have ho : x8O l = false := by
            rw [hx]
            rcases Nat.lt_or_ge c 10 with h | h
            · rw [show min 10 c = c by omega, decide_eq_true h, Bool.and_true]
              rw [g5, decide_eq_true h, Bool.and_true] at hF
              exact hF
            · rw [show min 10 c = 10 by omega]
              simp
          rw [so0, ho, go, hf, hg, e6, hF]
          exact ⟨fun h => absurd h (by simp), fun h => absurd h (by simp)⟩
        | true =>
          have hF' := hF
          rw [g5] at hF'
          simp only [Bool.and_eq_true, decide_eq_true_eq] at hF'
          obtain ⟨⟨c0, c10⟩, cl⟩ := hF'
          have hmin : min 10 c = c := by omega
          have hbr : bytesIn r := fun x hx => hb14 x (List.mem_cons_of_mem _ hx)
          have hpow := frV_pow (s := strOfNums (46 :: r)) (c := c + 1) (fun j h1 h2 => by
            obtain ⟨i, rfl⟩ : ∃ i, j = i + 1 := ⟨j - 1, by omega⟩
            rw [bt_str hb14, rd_succ]
            exact g4 i (by omega)) 9
          have hna : gNa (strOfNums l) = figV (r.take c) * 10 ^ (9 - c) := by
            unfold gNa
            rw [if_pos hg, e6, g1, frV_nine hb14 c (by omega) g2]
          rw [frV_nine hb14 c (by omega) g2] at hpow
          have h9 : (10 : Int) ^ 9 = 1000000000 := by decide
          refine fin (r.drop c) (figV (r.take c) * 10 ^ (9 - c)) (bytesIn_d hbr c) (by omega) ?_ ?_ ?_ ?_ ?_ hna
          · unfold x8L xN
            rw [if_pos pp, xd, g3, hmin]
          · rw [hx, hmin, decide_eq_true c0, decide_eq_true c10, decide_eq_true cl]
            rfl
          · unfold naI xN
            rw [if_pos pp, xd, g3, hmin]
          · rw [hg, e6, hF]
            rfl
          · unfold gRst
            rw [if_pos hg, e6, g1, ext_str]
            rfl
theorem gen_const : impl_ReadGeneralized.f [49, 57, 57, 49, 48, 53, 48, 54, 50, 51, 52, 53, 52, 48, 90] = some (1991, 5, 6, 23, 45, 40, 0, 0, true) := by
  have hb : bytesIn [49, 57, 57, 49, 48, 53, 48, 54, 50, 51, 52, 53, 52, 48, 90] := by unfold bytesIn; decide
  have ho : gOk (strOfNums [49, 57, 57, 49, 48, 53, 48, 54, 50, 51, 52, 53, 52, 48, 90]) = true := by
    refine (gen_same hb).1 ?_ ?_ <;> decide
  obtain ⟨h1, h2, h3, h4⟩ := (gen_same hb).2 ho
  obtain ⟨e1, e2, e3, e4, e5, e6⟩ := @drg_str [49, 57, 57, 49, 48, 53, 48, 54, 50, 51, 52, 53, 52, 48, 90]
  unfold impl_ReadGeneralized.f
  rw [if_pos (by decide), if_pos ho, e5, e4, e3, e2, e1, h3, h4, dv4_str hb, dv2_str (bytesIn_d hb _), dv2_str (bytesIn_d hb _), dv2_str (bytesIn_d hb _), dv2_str (bytesIn_d hb _), dv2_str (bytesIn_d hb _)]
  simp only [Option.some.injEq, Prod.mk.injEq]
  refine ⟨?_, ?_, ?_, ?_, ?_, ?_, ?_, ?_, ?_⟩ <;> first | rfl | decide
end Go.Proofs.Ytmiemfgcggkbnaa.Pure
