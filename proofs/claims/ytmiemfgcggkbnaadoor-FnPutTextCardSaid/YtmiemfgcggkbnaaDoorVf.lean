/- The text readers joined: impl.ReadText answers the plain text or an error. -/
import Derived.Test.YtmiemfgcggkbnaaDoorVc
import Derived.Test.YtmiemfgcggkbnaaDoorVd
import Derived.Test.YtmiemfgcggkbnaaDoorVe
import Derived.Test.YtmiemfgcggkbnaaDoorVb
import Derived.Lib.ValidAsc
import Derived.Lib.ValidLaws
import Derived.Lib.EndianBits
import Derived.Shelf.Unicode.DecodeSlow
import Derived.Laws.BitsAllLaws
namespace Go.Proofs.YtmiemfgcggkbnaaDoor.QT
open Go.BigFrame
open Go.RowKit Go.Proofs.YtmiemfgcggkbnaaDoorW.PrintWords Go.Proofs.YtmiemfgcggkbnaaDoorW.PrintLast Go.Proofs.YtmiemfgcggkbnaaDoorW.PrintMore
set_option linter.unusedVariables false
set_option linter.unusedSimpArgs false
def numB (c : Int) : Bool := decide (48 ≤ c ∧ c ≤ 57) || decide (c = 32)
def ia5B (c : Int) : Bool := decide (c < 128)
theorem numeric_f (c : Int) : asn1_isNumeric.f c = some (numB c) := by
  unfold asn1_isNumeric.f numB
  by_cases h1 : 48 ≤ c
  · rw [if_pos h1]
    by_cases h2 : c ≤ 57
    · rw [if_pos h2, decide_eq_true ⟨h1, h2⟩]
      rfl
    · rw [if_neg h2, decide_eq_false (fun h => h2 h.2)]
      congr 1
  · rw [if_neg h1, decide_eq_false (fun h => h1 h.1)]
    congr 1
theorem all_drop {l : List Int} {f : Int → Bool} {i : Nat} (h : i < l.length) : (l.drop i).all f = (f (rd l (i : Int)) && (l.drop (i + 1)).all f) := by
  rw [List.drop_eq_getElem_cons h, List.all_cons]
  unfold rd
  rw [Int.toNat_natCast, List.getD_eq_getElem?_getD, List.getElem?_eq_getElem h]
  rfl
theorem num_l0 (l : List Int) (hl : l.length ≤ 10000) : ∀ (d i k : Nat), i + d = l.length → d < k → asn1_parseNumericString.l0 k l l (l.length : Int) (i : Int) = some (if (l.drop i).all numB = true then (strOfNums l, none) else ((⟨#[]⟩ : ByteArray), some 0))
  | 0, i, k, h, hk => by
    obtain ⟨k, rfl⟩ : ∃ m, k = m + 1 := ⟨k - 1, by omega⟩
    simp only [asn1_parseNumericString.l0]
    rw [if_neg (by omega), show l.drop i = [] from List.drop_eq_nil_of_le (by omega)]
    rfl
  | d + 1, i, k, h, hk => by
    obtain ⟨k, rfl⟩ : ∃ m, k = m + 1 := ⟨k - 1, by omega⟩
    simp only [asn1_parseNumericString.l0]
    rw [if_pos (by omega), if_pos (by omega), if_pos (by omega), numeric_f]
    simp only [Option.bind_some]
    rw [all_drop (by omega)]
    cases hb : numB (rd l (i : Int)) with
    | true =>
      rw [if_pos rfl, show wrap64 ((i : Int) + 1) = ((i + 1 : Nat) : Int) by unfold wrap64; omega, num_l0 l hl d (i + 1) k (by omega) (by omega), Bool.true_and]
    | false => simp
theorem ia5_l0 (l : List Int) (hl : l.length ≤ 10000) : ∀ (d i k : Nat), i + d = l.length → d < k → asn1_parseIA5String.l0 k l (⟨#[]⟩ : ByteArray) none l (l.length : Int) (i : Int) = some (if (l.drop i).all ia5B = true then (strOfNums l, none) else ((⟨#[]⟩ : ByteArray), some 1))
  | 0, i, k, h, hk => by
    obtain ⟨k, rfl⟩ : ∃ m, k = m + 1 := ⟨k - 1, by omega⟩
    simp only [asn1_parseIA5String.l0]
    rw [if_neg (by omega), show l.drop i = [] from List.drop_eq_nil_of_le (by omega)]
    rfl
  | d + 1, i, k, h, hk => by
    obtain ⟨k, rfl⟩ : ∃ m, k = m + 1 := ⟨k - 1, by omega⟩
    simp only [asn1_parseIA5String.l0]
    rw [if_pos (by omega), if_pos (by omega), if_pos (by omega), all_drop (by omega)]
    by_cases hb : rd l (i : Int) < 128
    · rw [if_neg (by omega), show wrap64 ((i : Int) + 1) = ((i + 1 : Nat) : Int) by unfold wrap64; omega, ia5_l0 l hl d (i + 1) k (by omega) (by omega), show ia5B (rd l (i : Int)) = true from decide_eq_true hb, Bool.true_and]
    · rw [if_pos (by omega), show ia5B (rd l (i : Int)) = false from decide_eq_false hb]
      simp
theorem num_yes (A0 : Option Addr) (c0 : Nat) (l : List Int) (w : World) (hr0 : Kd.C (Kd.int .u8) w A0 l.length l) (hc0 : l.length ≤ c0) (hl : l.length ≤ 10000) (h : l.all numB = true) : Calls Tryd.prog 22 #[.slice A0 l.length c0] w (TxGood w (strOfNums l)) := by
  have hf : asn1_parseNumericString.f (l.length + 1) l = some (strOfNums l, none) := by
    have h9 := num_l0 l hl l.length 0 (l.length + 1) (by omega) (by omega)
    rw [List.drop_zero, if_pos h] at h9
    exact h9
  exact (asn1_parseNumericString.calls _ A0 c0 l _ _ w hr0 hc0 hf).mono fun _ _ ⟨he, hb⟩ => ⟨he, hb⟩
theorem num_no (A0 : Option Addr) (c0 : Nat) (l : List Int) (w : World) (hr0 : Kd.C (Kd.int .u8) w A0 l.length l) (hc0 : l.length ≤ c0) (hl : l.length ≤ 10000) (h : l.all numB = false) : Calls Tryd.prog 22 #[.slice A0 l.length c0] w (TxBad w) := by
  have hf : asn1_parseNumericString.f (l.length + 1) l = some ((⟨#[]⟩ : ByteArray), some 0) := by
    have h9 := num_l0 l hl l.length 0 (l.length + 1) (by omega) (by omega)
    rw [List.drop_zero, h, if_neg (by decide)] at h9
    exact h9
  exact (asn1_parseNumericString.calls _ A0 c0 l _ _ w hr0 hc0 hf).mono fun _ _ ⟨he, hb⟩ => ⟨_, _, he, hb⟩
theorem ia5_yes (A0 : Option Addr) (c0 : Nat) (l : List Int) (w : World) (hr0 : Kd.C (Kd.int .u8) w A0 l.length l) (hc0 : l.length ≤ c0) (hl : l.length ≤ 10000) (h : l.all ia5B = true) : Calls Tryd.prog 24 #[.slice A0 l.length c0] w (TxGood w (strOfNums l)) := by
  have hf : asn1_parseIA5String.f (l.length + 1) l = some (strOfNums l, none) := by
    have h9 := ia5_l0 l hl l.length 0 (l.length + 1) (by omega) (by omega)
    rw [List.drop_zero, if_pos h] at h9
    exact h9
  exact (asn1_parseIA5String.calls _ A0 c0 l _ _ w hr0 hc0 hf).mono fun _ _ ⟨he, hb⟩ => ⟨he, hb⟩
theorem ia5_no (A0 : Option Addr) (c0 : Nat) (l : List Int) (w : World) (hr0 : Kd.C (Kd.int .u8) w A0 l.length l) (hc0 : l.length ≤ c0) (hl : l.length ≤ 10000) (h : l.all ia5B = false) : Calls Tryd.prog 24 #[.slice A0 l.length c0] w (TxBad w) := by
  have hf : asn1_parseIA5String.f (l.length + 1) l = some ((⟨#[]⟩ : ByteArray), some 1) := by
    have h9 := ia5_l0 l hl l.length 0 (l.length + 1) (by omega) (by omega)
    rw [List.drop_zero, h, if_neg (by decide)] at h9
    exact h9
  exact (asn1_parseIA5String.calls _ A0 c0 l _ _ w hr0 hc0 hf).mono fun _ _ ⟨he, hb⟩ => ⟨_, _, he, hb⟩
set_option maxHeartbeats 4000000 in
set_option maxRecDepth 100000 in
theorem prt_yes (A0 : Option Addr) (c0 : Nat) (l : List Int) (w : World) (hr0 : Kd.C (Kd.int .u8) w A0 l.length l) (hc0 : l.length ≤ c0) (hby : bytesIn l) (hl : l.length ≤ 10000) (h : (l.all fun c => prB c true) = true) : Calls Tryd.prog 23 #[.slice A0 l.length c0] w (TxGood w (strOfNums l)) := by
  have HB0 := Aside0.mk (Below.refl w.heap.size w)
  have HR := Aside0.mk hr0
  have HY := Aside0.mk hby
  have HH := Aside0.mk h
  have hcv := Kd.C_string (P := Tryd.prog) (A := A0) (c := c0) Tryd.underlying24 Tryd.underlying5 Tryd.underlying9 hr0
  have hm : l.length ≤ 9223372036854775807 := by omega
  clear hr0 hc0 hby h
  go_enter Tryd.func23, Tryd.ntmps23
  go_wp2
  go_loopw [3, 8] (fun v3 v8 wr => v3 = .nilIface ∧ ∃ k : Nat, v8 = .int .i64 (k : Int) ∧ k ≤ l.length ∧ Aside0 (((l.take k).all fun c => prB c true) = true) ∧ w = wr) (fun _ v8 _ => l.length - (intOf v8).toNat)
  case atStart => exact ⟨rfl, 0, rfl, Nat.zero_le _, ⟨rfl⟩, rfl⟩
  case round =>
    obtain ⟨rfl, k, rfl, hk, HA, rfl⟩ := hrel
    by_cases hlt : k < l.length
    · have tl : decide ((k : Int) < (l.length : Int)) = true := decide_eq_true (by omega)
      have tln : decide (k < l.length) = true := decide_eq_true hlt
      have tq : (k : Int) < (l.length : Int) := by omega
      obtain ⟨ad, hA, hx⟩ := Kd.at_int HR.out (k : Int) (by omega) tq
      subst hA
      have bx := HY.out (rd l (k : Int)) (rd_mem hlt)
      have HS := Aside0.mk (rd_take' l k hlt)
      obtain ⟨x, hX⟩ : ∃ x, x = rd l (k : Int) := ⟨_, rfl⟩
      rw [← hX] at hx bx HS
      rw [show ((k : Int)).toNat = k from Int.toNat_natCast k] at hx
      have HX := Aside0.mk hX
      clear hX
      cases hp : prB x true with
      | true =>
        have HP := Aside0.mk hp
        clear hp
        go_wp2_with (go_at_call 29; (with_reducible refine (pr_any x true _ bx.1 bx.2).mono ?_); rw [HP.out]; rintro e w2 ⟨rfl, rfl⟩)
        go_roundw
        case rel => exact ⟨rfl, k + 1, by go_num, by omega, ⟨by rw [HS.out, List.all_append, HA.out]; simp [HP.out]⟩, by first | rfl | trivial⟩
        case measure => simp [intOf]; omega
      | false =>
        have HP := Aside0.mk hp
        clear hp
        exfalso
        have h9 := List.all_eq_true.1 HH.out x (by rw [HX.out]; exact rd_mem hlt)
        rw [HP.out] at h9
        cases h9
    · have hkeq : k = l.length := by omega
      have tl : decide ((k : Int) < (l.length : Int)) = false := decide_eq_false (by omega)
      have tln : decide (k < l.length) = false := decide_eq_false hlt
      have HA2 := Aside0.mk (show (l.all fun c => prB c true) = true from by have h9 := HA.out; rw [hkeq, List.take_length] at h9; exact h9)
      clear hkeq HA
      go_wp2
      go_ret2
      exact ⟨rfl, HB0.out⟩
set_option maxHeartbeats 4000000 in
set_option maxRecDepth 100000 in
theorem prt_no (A0 : Option Addr) (c0 : Nat) (l : List Int) (w : World) (hr0 : Kd.C (Kd.int .u8) w A0 l.length l) (hc0 : l.length ≤ c0) (hby : bytesIn l) (hl : l.length ≤ 10000) (h : (l.all fun c => prB c true) = false) : Calls Tryd.prog 23 #[.slice A0 l.length c0] w (TxBad w) := by
  have HB0 := Aside0.mk (Below.refl w.heap.size w)
  have HR := Aside0.mk hr0
  have HY := Aside0.mk hby
  have HH := Aside0.mk h
  have hcv := Kd.C_string (P := Tryd.prog) (A := A0) (c := c0) Tryd.underlying24 Tryd.underlying5 Tryd.underlying9 hr0
  have hm : l.length ≤ 9223372036854775807 := by omega
  clear hr0 hc0 hby h
  go_enter Tryd.func23, Tryd.ntmps23
  go_wp2
  go_loopw [3, 8] (fun v3 v8 wr => v3 = .nilIface ∧ ∃ k : Nat, v8 = .int .i64 (k : Int) ∧ k ≤ l.length ∧ Aside0 (((l.take k).all fun c => prB c true) = true) ∧ w = wr) (fun _ v8 _ => l.length - (intOf v8).toNat)
  case atStart => exact ⟨rfl, 0, rfl, Nat.zero_le _, ⟨rfl⟩, rfl⟩
  case round =>
    obtain ⟨rfl, k, rfl, hk, HA, rfl⟩ := hrel
    by_cases hlt : k < l.length
    · have tl : decide ((k : Int) < (l.length : Int)) = true := decide_eq_true (by omega)
      have tln : decide (k < l.length) = true := decide_eq_true hlt
      have tq : (k : Int) < (l.length : Int) := by omega
      obtain ⟨ad, hA, hx⟩ := Kd.at_int HR.out (k : Int) (by omega) tq
      subst hA
      have bx := HY.out (rd l (k : Int)) (rd_mem hlt)
      have HS := Aside0.mk (rd_take' l k hlt)
      obtain ⟨x, hX⟩ : ∃ x, x = rd l (k : Int) := ⟨_, rfl⟩
      rw [← hX] at hx bx HS
      rw [show ((k : Int)).toNat = k from Int.toNat_natCast k] at hx
      have HX := Aside0.mk hX
      clear hX
      cases hp : prB x true with
      | true =>
        have HP := Aside0.mk hp
        clear hp
        go_wp2_with (go_at_call 29; (with_reducible refine (pr_any x true _ bx.1 bx.2).mono ?_); rw [HP.out]; rintro e w2 ⟨rfl, rfl⟩)
        go_roundw
        case rel => exact ⟨rfl, k + 1, by go_num, by omega, ⟨by rw [HS.out, List.all_append, HA.out]; simp [HP.out]⟩, by first | rfl | trivial⟩
        case measure => simp [intOf]; omega
      | false =>
        have HP := Aside0.mk hp
        clear hp
        go_wp2_with (go_at_call 29; (with_reducible refine (pr_any x true _ bx.1 bx.2).mono ?_); rw [HP.out]; rintro e w2 ⟨rfl, rfl⟩)
        go_ret2
        exact ⟨_, _, rfl, HB0.out⟩
    · have hkeq : k = l.length := by omega
      have tl : decide ((k : Int) < (l.length : Int)) = false := decide_eq_false (by omega)
      have tln : decide (k < l.length) = false := decide_eq_false hlt
      have HA2 := Aside0.mk (show (l.all fun c => prB c true) = true from by have h9 := HA.out; rw [hkeq, List.take_length] at h9; exact h9)
      clear hkeq HA
      exfalso
      have h9 := HH.out
      rw [HA2.out] at h9
      cases h9
theorem bs_of {w : World} {A0 : Option Addr} {c0 : Nat} {l : List Int} (hr0 : Kd.C (Kd.int .u8) w A0 l.length l) (hc0 : l.length ≤ c0) (hby : bytesIn l) : BS w A0 l.length c0 (strOfNums l) := ⟨l, rfl, rfl, hc0, hby, hr0⟩
set_option maxHeartbeats 1000000 in
theorem utf_yes (A0 : Option Addr) (c0 : Nat) (l : List Int) (w : World) (hr0 : Kd.C (Kd.int .u8) w A0 l.length l) (hc0 : l.length ≤ c0) (hby : bytesIn l) (hl : l.length ≤ 10000) (hT : Lib.Utf8Tabs 0 1 w) (h : Lib.validD (strOfNums l).data.toList = true) : Calls Tryd.prog 26 #[.slice A0 l.length c0] w (TxGood w (strOfNums l)) := by
  have HB0 := Aside0.mk (Below.refl w.heap.size w)
  have HV := Aside0.mk (Valid_any A0 l.length c0 (strOfNums l) w (bs_of hr0 hc0 hby) (by omega) hT)
  have HR := Aside0.mk hr0
  have HH := Aside0.mk h
  clear hr0 hc0 hby hT h
  go_enter Tryd.func26, Tryd.ntmps26
  go_wp2_with (go_at_call 31; (with_reducible refine HV.out.mono ?_); rw [HH.out]; rintro e w2 ⟨rfl, hb⟩; have HB2 := Aside0.mk hb; have hcv := Kd.C_string (P := Tryd.prog) (A := A0) (c := c0) Tryd.underlying24 Tryd.underlying5 Tryd.underlying9 (Kd.C_below HR.out hb); clear hb)
  go_ret2
  exact ⟨rfl, HB2.out⟩
set_option maxHeartbeats 1000000 in
theorem utf_no (A0 : Option Addr) (c0 : Nat) (l : List Int) (w : World) (hr0 : Kd.C (Kd.int .u8) w A0 l.length l) (hc0 : l.length ≤ c0) (hby : bytesIn l) (hl : l.length ≤ 10000) (hT : Lib.Utf8Tabs 0 1 w) (h : Lib.validD (strOfNums l).data.toList = false) : Calls Tryd.prog 26 #[.slice A0 l.length c0] w (TxBad w) := by
  have HB0 := Aside0.mk (Below.refl w.heap.size w)
  have HV := Aside0.mk (Valid_any A0 l.length c0 (strOfNums l) w (bs_of hr0 hc0 hby) (by omega) hT)
  have HR := Aside0.mk hr0
  have HH := Aside0.mk h
  clear hr0 hc0 hby hT h
  go_enter Tryd.func26, Tryd.ntmps26
  go_wp2_with (first | (go_at_call 31; (with_reducible refine HV.out.mono ?_); rw [HH.out]; rintro e w2 ⟨rfl, hb⟩; have HB2 := Aside0.mk hb; clear hb) | (go_at_call 20; (with_reducible refine (errors_New_any _ _).mono ?_); rintro e w3 ⟨T, x, rfl, hb⟩; have HB3 := Aside0.mk (below_step HB2.out hb); clear hb))
  go_ret2
  exact ⟨T, x, rfl, HB3.out⟩
theorem bmp_yes_ (A0 : Option Addr) (c0 : Nat) (l : List Int) (w : World) (hr0 : Kd.C (Kd.int .u8) w A0 l.length l) (hc0 : l.length ≤ c0) (hby : bytesIn l) (hl : l.length ≤ 10000) (he : l.length % 2 = 0) (h : (pts (cutZ l)).all okP = true) : Calls Tryd.prog 27 #[.slice A0 l.length c0] w (TxGood w (runesBytes (pts (cutZ l)))) :=
  (BMP_even A0 c0 l (cutZ l) w hr0 hc0 hby he hl rfl).mono fun e w' hq => by
    have h9 : if (pts (cutZ l)).all okP = true then TxGood w (runesBytes (pts (cutZ l))) e w' else TxBad w e w' := hq
    rw [if_pos h] at h9
    exact h9
theorem bmp_no_ (A0 : Option Addr) (c0 : Nat) (l : List Int) (w : World) (hr0 : Kd.C (Kd.int .u8) w A0 l.length l) (hc0 : l.length ≤ c0) (hby : bytesIn l) (hl : l.length ≤ 10000) (h : ¬ (l.length % 2 = 0 ∧ (pts (cutZ l)).all okP = true)) : Calls Tryd.prog 27 #[.slice A0 l.length c0] w (TxBad w) := by
  by_cases he : l.length % 2 = 0
  · exact (BMP_even A0 c0 l (cutZ l) w hr0 hc0 hby he hl rfl).mono fun e w' hq => by
      have h9 : if (pts (cutZ l)).all okP = true then TxGood w (runesBytes (pts (cutZ l))) e w' else TxBad w e w' := hq
      rw [if_neg (fun h8 => h ⟨he, h8⟩)] at h9
      exact h9
  · exact BMP_odd A0 c0 l w (by omega) hl
/-- Which bytes are a text of a kind, and which one. -/
def txOk (k : Int) (l : List Int) : Bool := if k = 0 then l.all numB else if k = 1 then (l.all fun c => prB c true) else if k = 2 then l.all ia5B else if k = 3 then true else if k = 4 then Lib.validD (strOfNums l).data.toList else (decide (l.length % 2 = 0) && (pts (cutZ l)).all okP)
def txS (k : Int) (l : List Int) : ByteArray := if k = 3 then strOfNums (l.flatMap putB) else if k = 5 then runesBytes (pts (cutZ l)) else strOfNums l
set_option maxHeartbeats 1000000 in
theorem ZZT_0_yes (A0 : Option Addr) (c0 : Nat) (l : List Int) (w : World) (hp : Calls Tryd.prog 22 #[.slice A0 l.length c0] w (TxGood w (strOfNums l))) : Calls Tryd.prog 12 #[.int .i64 0, .slice A0 l.length c0] w (TxGood w (strOfNums l)) := by
  have HP := Aside0.mk hp
  clear hp
  go_enter Tryd.func12, Tryd.ntmps12
  go_wp2_with (go_at_call 22; (with_reducible refine HP.out.mono ?_); rintro e w2 ⟨rfl, hb⟩; have HB2 := Aside0.mk hb; clear hb)
  go_ret2
  exact ⟨rfl, HB2.out⟩
set_option maxHeartbeats 1000000 in
theorem ZZT_1_yes (A0 : Option Addr) (c0 : Nat) (l : List Int) (w : World) (hp : Calls Tryd.prog 23 #[.slice A0 l.length c0] w (TxGood w (strOfNums l))) : Calls Tryd.prog 12 #[.int .i64 1, .slice A0 l.length c0] w (TxGood w (strOfNums l)) := by
  have HP := Aside0.mk hp
  clear hp
  go_enter Tryd.func12, Tryd.ntmps12
  go_wp2_with (go_at_call 23; (with_reducible refine HP.out.mono ?_); rintro e w2 ⟨rfl, hb⟩; have HB2 := Aside0.mk hb; clear hb)
  go_ret2
  exact ⟨rfl, HB2.out⟩
set_option maxHeartbeats 1000000 in
theorem ZZT_2_yes (A0 : Option Addr) (c0 : Nat) (l : List Int) (w : World) (hp : Calls Tryd.prog 24 #[.slice A0 l.length c0] w (TxGood w (strOfNums l))) : Calls Tryd.prog 12 #[.int .i64 2, .slice A0 l.length c0] w (TxGood w (strOfNums l)) := by
  have HP := Aside0.mk hp
  clear hp
  go_enter Tryd.func12, Tryd.ntmps12
  go_wp2_with (go_at_call 24; (with_reducible refine HP.out.mono ?_); rintro e w2 ⟨rfl, hb⟩; have HB2 := Aside0.mk hb; clear hb)
  go_ret2
  exact ⟨rfl, HB2.out⟩
set_option maxHeartbeats 1000000 in
theorem ZZT_3_yes (A0 : Option Addr) (c0 : Nat) (l : List Int) (w : World) (hp : Calls Tryd.prog 25 #[.slice A0 l.length c0] w (TxGood w (strOfNums (l.flatMap putB)))) : Calls Tryd.prog 12 #[.int .i64 3, .slice A0 l.length c0] w (TxGood w (strOfNums (l.flatMap putB))) := by
  have HP := Aside0.mk hp
  clear hp
  go_enter Tryd.func12, Tryd.ntmps12
  go_wp2_with (go_at_call 25; (with_reducible refine HP.out.mono ?_); rintro e w2 ⟨rfl, hb⟩; have HB2 := Aside0.mk hb; clear hb)
  go_ret2
  exact ⟨rfl, HB2.out⟩
set_option maxHeartbeats 1000000 in
theorem ZZT_4_yes (A0 : Option Addr) (c0 : Nat) (l : List Int) (w : World) (hp : Calls Tryd.prog 26 #[.slice A0 l.length c0] w (TxGood w (strOfNums l))) : Calls Tryd.prog 12 #[.int .i64 4, .slice A0 l.length c0] w (TxGood w (strOfNums l)) := by
  have HP := Aside0.mk hp
  clear hp
  go_enter Tryd.func12, Tryd.ntmps12
  go_wp2_with (go_at_call 26; (with_reducible refine HP.out.mono ?_); rintro e w2 ⟨rfl, hb⟩; have HB2 := Aside0.mk hb; clear hb)
  go_ret2
  exact ⟨rfl, HB2.out⟩
set_option maxHeartbeats 1000000 in
theorem ZZT_5_yes (A0 : Option Addr) (c0 : Nat) (l : List Int) (w : World) (hp : Calls Tryd.prog 27 #[.slice A0 l.length c0] w (TxGood w (runesBytes (pts (cutZ l))))) : Calls Tryd.prog 12 #[.int .i64 5, .slice A0 l.length c0] w (TxGood w (runesBytes (pts (cutZ l)))) := by
  have HP := Aside0.mk hp
  clear hp
  go_enter Tryd.func12, Tryd.ntmps12
  go_wp2_with (go_at_call 27; (with_reducible refine HP.out.mono ?_); rintro e w2 ⟨rfl, hb⟩; have HB2 := Aside0.mk hb; clear hb)
  go_ret2
  exact ⟨rfl, HB2.out⟩
set_option maxHeartbeats 1000000 in
theorem ZZT_0_no (A0 : Option Addr) (c0 : Nat) (l : List Int) (w : World) (hp : Calls Tryd.prog 22 #[.slice A0 l.length c0] w (TxBad w)) : Calls Tryd.prog 12 #[.int .i64 0, .slice A0 l.length c0] w (TxBad w) := by
  have HP := Aside0.mk hp
  clear hp
  go_enter Tryd.func12, Tryd.ntmps12
  go_wp2_with (go_at_call 22; (with_reducible refine HP.out.mono ?_); rintro e w2 ⟨T, x, rfl, hb⟩; have HB2 := Aside0.mk hb; clear hb)
  go_ret2
  exact ⟨T, x, rfl, HB2.out⟩
set_option maxHeartbeats 1000000 in
theorem ZZT_1_no (A0 : Option Addr) (c0 : Nat) (l : List Int) (w : World) (hp : Calls Tryd.prog 23 #[.slice A0 l.length c0] w (TxBad w)) : Calls Tryd.prog 12 #[.int .i64 1, .slice A0 l.length c0] w (TxBad w) := by
  have HP := Aside0.mk hp
  clear hp
  go_enter Tryd.func12, Tryd.ntmps12
  go_wp2_with (go_at_call 23; (with_reducible refine HP.out.mono ?_); rintro e w2 ⟨T, x, rfl, hb⟩; have HB2 := Aside0.mk hb; clear hb)
  go_ret2
  exact ⟨T, x, rfl, HB2.out⟩
set_option maxHeartbeats 1000000 in
theorem ZZT_2_no (A0 : Option Addr) (c0 : Nat) (l : List Int) (w : World) (hp : Calls Tryd.prog 24 #[.slice A0 l.length c0] w (TxBad w)) : Calls Tryd.prog 12 #[.int .i64 2, .slice A0 l.length c0] w (TxBad w) := by
  have HP := Aside0.mk hp
  clear hp
  go_enter Tryd.func12, Tryd.ntmps12
  go_wp2_with (go_at_call 24; (with_reducible refine HP.out.mono ?_); rintro e w2 ⟨T, x, rfl, hb⟩; have HB2 := Aside0.mk hb; clear hb)
  go_ret2
  exact ⟨T, x, rfl, HB2.out⟩
set_option maxHeartbeats 1000000 in
theorem ZZT_4_no (A0 : Option Addr) (c0 : Nat) (l : List Int) (w : World) (hp : Calls Tryd.prog 26 #[.slice A0 l.length c0] w (TxBad w)) : Calls Tryd.prog 12 #[.int .i64 4, .slice A0 l.length c0] w (TxBad w) := by
  have HP := Aside0.mk hp
  clear hp
  go_enter Tryd.func12, Tryd.ntmps12
  go_wp2_with (go_at_call 26; (with_reducible refine HP.out.mono ?_); rintro e w2 ⟨T, x, rfl, hb⟩; have HB2 := Aside0.mk hb; clear hb)
  go_ret2
  exact ⟨T, x, rfl, HB2.out⟩
set_option maxHeartbeats 1000000 in
theorem ZZT_5_no (A0 : Option Addr) (c0 : Nat) (l : List Int) (w : World) (hp : Calls Tryd.prog 27 #[.slice A0 l.length c0] w (TxBad w)) : Calls Tryd.prog 12 #[.int .i64 5, .slice A0 l.length c0] w (TxBad w) := by
  have HP := Aside0.mk hp
  clear hp
  go_enter Tryd.func12, Tryd.ntmps12
  go_wp2_with (go_at_call 27; (with_reducible refine HP.out.mono ?_); rintro e w2 ⟨T, x, rfl, hb⟩; have HB2 := Aside0.mk hb; clear hb)
  go_ret2
  exact ⟨T, x, rfl, HB2.out⟩
theorem ZZT_good (A0 : Option Addr) (c0 : Nat) (k : Int) (l : List Int) (w : World) (hk : 0 ≤ k ∧ k ≤ 5) (hr0 : Kd.C (Kd.int .u8) w A0 l.length l) (hc0 : l.length ≤ c0) (hby : bytesIn l) (hl : l.length ≤ 10000) (hT : Lib.Utf8Tabs 0 1 w) (h : txOk k l = true) : Calls Tryd.prog 12 #[.int .i64 k, .slice A0 l.length c0] w (TxGood w (txS k l)) := by
  rcases (by omega : k = 0 ∨ k = 1 ∨ k = 2 ∨ k = 3 ∨ k = 4 ∨ k = 5) with rfl | rfl | rfl | rfl | rfl | rfl
  · exact ZZT_0_yes A0 c0 l w (num_yes A0 c0 l w hr0 hc0 hl h)
  · exact ZZT_1_yes A0 c0 l w (prt_yes A0 c0 l w hr0 hc0 hby hl h)
  · exact ZZT_2_yes A0 c0 l w (ia5_yes A0 c0 l w hr0 hc0 hl h)
  · exact ZZT_3_yes A0 c0 l w (T61_any A0 c0 l w hr0 hc0 hby hl)
  · exact ZZT_4_yes A0 c0 l w (utf_yes A0 c0 l w hr0 hc0 hby hl hT h)
  · have h9 : (decide (l.length % 2 = 0) && (pts (cutZ l)).all okP) = true := h
    simp only [Bool.and_eq_true, decide_eq_true_eq] at h9
    exact ZZT_5_yes A0 c0 l w (bmp_yes_ A0 c0 l w hr0 hc0 hby hl h9.1 h9.2)
theorem ZZT_bad (A0 : Option Addr) (c0 : Nat) (k : Int) (l : List Int) (w : World) (hk : 0 ≤ k ∧ k ≤ 5) (hr0 : Kd.C (Kd.int .u8) w A0 l.length l) (hc0 : l.length ≤ c0) (hby : bytesIn l) (hl : l.length ≤ 10000) (hT : Lib.Utf8Tabs 0 1 w) (h : txOk k l = false) : Calls Tryd.prog 12 #[.int .i64 k, .slice A0 l.length c0] w (TxBad w) := by
  rcases (by omega : k = 0 ∨ k = 1 ∨ k = 2 ∨ k = 3 ∨ k = 4 ∨ k = 5) with rfl | rfl | rfl | rfl | rfl | rfl
  · exact ZZT_0_no A0 c0 l w (num_no A0 c0 l w hr0 hc0 hl h)
  · exact ZZT_1_no A0 c0 l w (prt_no A0 c0 l w hr0 hc0 hby hl h)
  · exact ZZT_2_no A0 c0 l w (ia5_no A0 c0 l w hr0 hc0 hl h)
  · cases h
  · exact ZZT_4_no A0 c0 l w (utf_no A0 c0 l w hr0 hc0 hby hl hT h)
  · refine ZZT_5_no A0 c0 l w (bmp_no_ A0 c0 l w hr0 hc0 hby hl fun h8 => ?_)
    have h9 : (decide (l.length % 2 = 0) && (pts (cutZ l)).all okP) = false := h
    rw [decide_eq_true h8.1, h8.2] at h9
    cases h9
def RtGood (w : World) (s : ByteArray) (e : Ending) (w' : World) : Prop := e = .returned (.tuple #[.string s, .bool true]) ∧ Below w.heap.size w w'
def RtBad (w : World) (e : Ending) (w' : World) : Prop := e = .returned (.tuple #[.string (⟨#[]⟩ : ByteArray), .bool false]) ∧ Below w.heap.size w w'
set_option maxHeartbeats 2000000 in
theorem RT_yes (A0 : Option Addr) (c0 : Nat) (k : Int) (l : List Int) (w : World) (hk : 0 ≤ k ∧ k ≤ 5) (hr0 : Kd.C (Kd.int .u8) w A0 l.length l) (hc0 : l.length ≤ c0) (hby : bytesIn l) (hl : l.length ≤ 10000) (hT : Lib.Utf8Tabs 0 1 w) (h : txOk k l = true) : Calls Tryd.prog 7 #[.int .i64 k, .slice A0 l.length c0] w (RtGood w (txS k l)) := by
  have HR0 := Aside0.mk hr0
  have HC0 := Aside0.mk hc0
  have HY := Aside0.mk hby
  have HT := Aside0.mk hT
  have HH := Aside0.mk h
  have HL := Aside0.mk hl
  have HK := Aside0.mk hk
  have HS := Aside0.mk (show impl_short.f l = some true by simp [impl_short.f]; omega)
  have HQ := Aside0.mk (show impl_copied.f l = some l by simp [impl_copied.f]; omega)
  have hu33 := Tryd.underlying33
  clear hr0 hc0 hby hT h hl hk
  go_enter Tryd.func7, Tryd.ntmps7
  go_wp2_with (first
    | (go_at_call 11; (with_reducible refine (impl_short.calls _ _ l true _ HR0.out HC0.out HS.out).mono ?_); rintro e w2 ⟨rfl, hd⟩; have HB2 := Aside0.mk hd.below; clear hd)
    | (go_at_call 13; (with_reducible refine (impl_copied.calls _ _ l l _ (Kd.C_below HR0.out HB2.out) HC0.out HQ.out).mono ?_); rintro e w3 ⟨v0, rfl, ho, hb⟩; have HB3 := Aside0.mk (below_step HB2.out hb); obtain ⟨A5, c5, e5, hc5, hr5⟩ := Kd.R_reads ho; subst e5; have HR5 := Aside0.mk hr5; have HC5 := Aside0.mk hc5; clear hb ho hr5 hc5)
    | (go_at_call 12; (with_reducible refine (ZZT_good A5 c5 k l _ HK.out HR5.out HC5.out HY.out HL.out (Utf8Tabs_below HT.out HB3.out) HH.out).mono ?_); rintro e w4 ⟨rfl, hb⟩; have HB4 := Aside0.mk (below_step HB3.out hb); clear hb))
  go_ret2
  exact ⟨rfl, HB4.out⟩
set_option maxHeartbeats 2000000 in
theorem RT_no (A0 : Option Addr) (c0 : Nat) (k : Int) (l : List Int) (w : World) (hk : 0 ≤ k ∧ k ≤ 5) (hr0 : Kd.C (Kd.int .u8) w A0 l.length l) (hc0 : l.length ≤ c0) (hby : bytesIn l) (hl : l.length ≤ 10000) (hT : Lib.Utf8Tabs 0 1 w) (h : txOk k l = false) : Calls Tryd.prog 7 #[.int .i64 k, .slice A0 l.length c0] w (RtBad w) := by
  have HR0 := Aside0.mk hr0
  have HC0 := Aside0.mk hc0
  have HY := Aside0.mk hby
  have HT := Aside0.mk hT
  have HH := Aside0.mk h
  have HL := Aside0.mk hl
  have HK := Aside0.mk hk
  have HS := Aside0.mk (show impl_short.f l = some true by simp [impl_short.f]; omega)
  have HQ := Aside0.mk (show impl_copied.f l = some l by simp [impl_copied.f]; omega)
  have hu33 := Tryd.underlying33
  clear hr0 hc0 hby hT h hl hk
  go_enter Tryd.func7, Tryd.ntmps7
  go_wp2_with (first
    | (go_at_call 11; (with_reducible refine (impl_short.calls _ _ l true _ HR0.out HC0.out HS.out).mono ?_); rintro e w2 ⟨rfl, hd⟩; have HB2 := Aside0.mk hd.below; clear hd)
    | (go_at_call 13; (with_reducible refine (impl_copied.calls _ _ l l _ (Kd.C_below HR0.out HB2.out) HC0.out HQ.out).mono ?_); rintro e w3 ⟨v0, rfl, ho, hb⟩; have HB3 := Aside0.mk (below_step HB2.out hb); obtain ⟨A5, c5, e5, hc5, hr5⟩ := Kd.R_reads ho; subst e5; have HR5 := Aside0.mk hr5; have HC5 := Aside0.mk hc5; clear hb ho hr5 hc5)
    | (go_at_call 12; (with_reducible refine (ZZT_bad A5 c5 k l _ HK.out HR5.out HC5.out HY.out HL.out (Utf8Tabs_below HT.out HB3.out) HH.out).mono ?_); rintro e w4 ⟨T, x, rfl, hb⟩; have HB4 := Aside0.mk (below_step HB3.out hb); clear hb))
  go_ret2
  exact ⟨rfl, HB4.out⟩
end Go.Proofs.YtmiemfgcggkbnaaDoor.QT
