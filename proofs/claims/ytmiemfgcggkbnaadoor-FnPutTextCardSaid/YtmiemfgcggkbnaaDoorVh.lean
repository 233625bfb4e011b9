/- makeNumericString, makePrintableString, makeIA5String, walked. -/
import Derived.Test.YtmiemfgcggkbnaaDoorVg
import Derived.Test.YtmiemfgcggkbnaaDoorQTx2
import Derived.Lib.LazyBuf
import Derived.Lib.ValidAsc
import Derived.Lib.ValidLaws
import Derived.Lib.EndianBits
import Derived.Shelf.Unicode.DecodeSlow
import Derived.Laws.BitsAllLaws
namespace Go.Proofs.YtmiemfgcggkbnaaDoor.QT
open Go.BigFrame
open Go.RowKit Go.Proofs.YtmiemfgcggkbnaaDoorW.PrintWords Go.Proofs.YtmiemfgcggkbnaaDoorW.PrintLast Go.Proofs.YtmiemfgcggkbnaaDoorW.PrintMore
set_option linter.unusedVariables false
set_option linter.unusedSimpArgs false
theorem isn_any (c : Int) (w : World) : Calls Tryd.prog 28 #[.int .u8 c] w fun e w' => e = .returned (.bool (numB c)) ∧ Below w.heap.size w w' :=
  (asn1_isNumeric.calls c (numB c) w (numeric_f c)).mono fun _ _ ⟨he, hw⟩ => ⟨he, by
    obtain ⟨nd, rfl⟩ := hw
    first | exact pw_below_drewN (Below.refl _ _) | (apply pw_below_drewN; exact Below.refl _ _)⟩
def prQ (c : Int) : Bool := prB c false
theorem prq_any (c : Int) (w : World) (h0 : 0 ≤ c) (h1 : c ≤ 255) : Calls Tryd.prog 29 #[.int .u8 c, .bool true, .bool false] w fun e w' => e = .returned (.bool (prQ c)) ∧ Below w.heap.size w w' :=
  (pr_any c false w h0 h1).mono fun _ _ ⟨he, hw⟩ => ⟨he, by rw [hw]; exact Below.refl _ _⟩
/-! the makers: a string of the kind becomes a stringEncoder, or an error -/
def MkGood (w : World) (s : ByteArray) (e : Ending) (w' : World) : Prop := e = .returned (.tuple #[.iface 55 (.string s), .nilIface]) ∧ Below w.heap.size w w'
def MkBad (w : World) (e : Ending) (w' : World) : Prop := ∃ T x, e = .returned (.tuple #[.nilIface, .iface T x]) ∧ Below w.heap.size w w'
theorem take_bt (s : ByteArray) (k : Nat) (h : k < s.size) : (bytesOf s).take (k + 1) = (bytesOf s).take k ++ [bt s (k : Int)] := by
  have h1 : k < (bytesOf s).length := by rw [bytesOf_length]; exact h
  have h2 := rd_take' (bytesOf s) k h1
  rw [rd_bytesOf] at h2
  exact h2
theorem bt_mem (s : ByteArray) (k : Nat) (h : k < s.size) : bt s (k : Int) ∈ bytesOf s := by
  have h1 : k < (bytesOf s).length := by rw [bytesOf_length]; exact h
  have h2 := rd_mem h1
  rw [rd_bytesOf] at h2
  exact h2
theorem take_all (s : ByteArray) : (bytesOf s).take s.size = bytesOf s := List.take_of_length_le (by rw [bytesOf_length]; exact Nat.le_refl _)
set_option maxHeartbeats 4000000 in
set_option maxRecDepth 100000 in
theorem mkn_yes (s : ByteArray) (w : World) (hl : s.size ≤ 10000) (h : (bytesOf s).all (fun c => numB c) = true) : Calls Tryd.prog 16 #[.string s] w (MkGood w s) := by
  have HB0 := Aside0.mk (Below.refl w.heap.size w)
  have HH := Aside0.mk h
  clear h
  go_enter Tryd.func16, Tryd.ntmps16
  go_wp2
  go_loopw [2, 3, 4] (fun v2 v3 v4 wr => v2 = .nilIface ∧ v3 = .nilIface ∧ ∃ k : Nat, v4 = .int .i64 (k : Int) ∧ k ≤ s.size ∧ Aside0 ((((bytesOf s).take k).all fun c => numB c) = true) ∧ Aside0 (Below w.heap.size w wr)) (fun _ _ v4 _ => s.size - (intOf v4).toNat)
  case atStart => exact ⟨rfl, rfl, 0, rfl, Nat.zero_le _, ⟨rfl⟩, HB0⟩
  case round =>
    obtain ⟨rfl, rfl, k, rfl, hk, HA, HBW⟩ := hrel
    by_cases hlt : k < s.size
    · have tl : decide ((k : Int) < (s.size : Int)) = true := decide_eq_true (by omega)
      have tln : decide (k < s.size) = true := decide_eq_true hlt
      have tq : (k : Int) < (s.size : Int) := by omega
      have hx : ∀ h : k < s.size, ((s[k]'h).toNat : Int) = bt s (k : Int) := fun h => by have h9 := bt_at s (k : Int) (by simpa using h); simpa using h9
      have bx := bt_range s (k : Int)
      have HS := Aside0.mk (take_bt s k hlt)
      obtain ⟨x, hX⟩ : ∃ x, x = bt s (k : Int) := ⟨_, rfl⟩
      rw [← hX] at hx bx HS
      have HX := Aside0.mk hX
      clear hX
      have p7 : (0 ≤ (k : Int)) = True := eq_true (by omega)
      have q7 := eq_true tq
      have q8 := eq_true hlt
      cases hp : numB x with
      | true =>
        have HP := Aside0.mk hp
        clear hp
        go_wp2_with (go_at_call 28; (with_reducible refine (isn_any x _).mono ?_); rw [HP.out]; rintro e w2 ⟨rfl, hb⟩; have n0_ := Aside0.mk (below_step HBW.out hb); clear HBW hb; have HBW := n0_; clear n0_)
        go_roundw
        case rel => exact ⟨rfl, rfl, k + 1, by go_num, by omega, ⟨by rw [HS.out, List.all_append, HA.out]; simp [HP.out]⟩, HBW⟩
        case measure => simp [intOf]; omega
      | false =>
        have HP := Aside0.mk hp
        clear hp
        exfalso
        have h9 := List.all_eq_true.1 HH.out x (by rw [HX.out]; exact bt_mem s k hlt)
        have h8 := HP.out
        rw [h8] at h9
        cases h9
    · have hkeq : k = s.size := by omega
      have tl : decide ((k : Int) < (s.size : Int)) = false := decide_eq_false (by omega)
      have tln : decide (k < s.size) = false := decide_eq_false hlt
      have HA2 := Aside0.mk (show ((bytesOf s).all fun c => numB c) = true from by have h9 := HA.out; rw [hkeq, take_all] at h9; exact h9)
      clear hkeq HA
      go_wp2
      go_ret2
      exact ⟨rfl, HBW.out⟩
set_option maxHeartbeats 4000000 in
set_option maxRecDepth 100000 in
theorem mkn_no (s : ByteArray) (w : World) (hl : s.size ≤ 10000) (h : (bytesOf s).all (fun c => numB c) = false) : Calls Tryd.prog 16 #[.string s] w (MkBad w) := by
  have HB0 := Aside0.mk (Below.refl w.heap.size w)
  have HH := Aside0.mk h
  clear h
  go_enter Tryd.func16, Tryd.ntmps16
  go_wp2
  go_loopw [2, 3, 4] (fun v2 v3 v4 wr => v2 = .nilIface ∧ v3 = .nilIface ∧ ∃ k : Nat, v4 = .int .i64 (k : Int) ∧ k ≤ s.size ∧ Aside0 ((((bytesOf s).take k).all fun c => numB c) = true) ∧ Aside0 (Below w.heap.size w wr)) (fun _ _ v4 _ => s.size - (intOf v4).toNat)
  case atStart => exact ⟨rfl, rfl, 0, rfl, Nat.zero_le _, ⟨rfl⟩, HB0⟩
  case round =>
    obtain ⟨rfl, rfl, k, rfl, hk, HA, HBW⟩ := hrel
    by_cases hlt : k < s.size
    · have tl : decide ((k : Int) < (s.size : Int)) = true := decide_eq_true (by omega)
      have tln : decide (k < s.size) = true := decide_eq_true hlt
      have tq : (k : Int) < (s.size : Int) := by omega
      have hx : ∀ h : k < s.size, ((s[k]'h).toNat : Int) = bt s (k : Int) := fun h => by have h9 := bt_at s (k : Int) (by simpa using h); simpa using h9
      have bx := bt_range s (k : Int)
      have HS := Aside0.mk (take_bt s k hlt)
      obtain ⟨x, hX⟩ : ∃ x, x = bt s (k : Int) := ⟨_, rfl⟩
      rw [← hX] at hx bx HS
      have HX := Aside0.mk hX
      clear hX
      have p7 : (0 ≤ (k : Int)) = True := eq_true (by omega)
      have q7 := eq_true tq
      have q8 := eq_true hlt
      cases hp : numB x with
      | true =>
        have HP := Aside0.mk hp
        clear hp
        go_wp2_with (go_at_call 28; (with_reducible refine (isn_any x _).mono ?_); rw [HP.out]; rintro e w2 ⟨rfl, hb⟩; have n0_ := Aside0.mk (below_step HBW.out hb); clear HBW hb; have HBW := n0_; clear n0_)
        go_roundw
        case rel => exact ⟨rfl, rfl, k + 1, by go_num, by omega, ⟨by rw [HS.out, List.all_append, HA.out]; simp [HP.out]⟩, HBW⟩
        case measure => simp [intOf]; omega
      | false =>
        have HP := Aside0.mk hp
        clear hp
        go_wp2_with (go_at_call 28; (with_reducible refine (isn_any x _).mono ?_); rw [HP.out]; rintro e w2 ⟨rfl, hb⟩; have n0_ := Aside0.mk (below_step HBW.out hb); clear HBW hb; have HBW := n0_; clear n0_)
        go_ret2
        exact ⟨_, _, rfl, HBW.out⟩
    · have hkeq : k = s.size := by omega
      have tl : decide ((k : Int) < (s.size : Int)) = false := decide_eq_false (by omega)
      have tln : decide (k < s.size) = false := decide_eq_false hlt
      have HA2 := Aside0.mk (show ((bytesOf s).all fun c => numB c) = true from by have h9 := HA.out; rw [hkeq, take_all] at h9; exact h9)
      clear hkeq HA
      exfalso
      have h9 := HH.out
      rw [HA2.out] at h9
      cases h9
set_option maxHeartbeats 4000000 in
set_option maxRecDepth 100000 in
theorem mkp_yes (s : ByteArray) (w : World) (hl : s.size ≤ 10000) (h : (bytesOf s).all (fun c => prQ c) = true) : Calls Tryd.prog 17 #[.string s] w (MkGood w s) := by
  have HB0 := Aside0.mk (Below.refl w.heap.size w)
  have HH := Aside0.mk h
  clear h
  go_enter Tryd.func17, Tryd.ntmps17
  go_wp2
  go_loopw [2, 3, 4] (fun v2 v3 v4 wr => v2 = .nilIface ∧ v3 = .nilIface ∧ ∃ k : Nat, v4 = .int .i64 (k : Int) ∧ k ≤ s.size ∧ Aside0 ((((bytesOf s).take k).all fun c => prQ c) = true) ∧ Aside0 (Below w.heap.size w wr)) (fun _ _ v4 _ => s.size - (intOf v4).toNat)
  case atStart => exact ⟨rfl, rfl, 0, rfl, Nat.zero_le _, ⟨rfl⟩, HB0⟩
  case round =>
    obtain ⟨rfl, rfl, k, rfl, hk, HA, HBW⟩ := hrel
    by_cases hlt : k < s.size
    · have tl : decide ((k : Int) < (s.size : Int)) = true := decide_eq_true (by omega)
      have tln : decide (k < s.size) = true := decide_eq_true hlt
      have tq : (k : Int) < (s.size : Int) := by omega
      have hx : ∀ h : k < s.size, ((s[k]'h).toNat : Int) = bt s (k : Int) := fun h => by have h9 := bt_at s (k : Int) (by simpa using h); simpa using h9
      have bx := bt_range s (k : Int)
      have HS := Aside0.mk (take_bt s k hlt)
      obtain ⟨x, hX⟩ : ∃ x, x = bt s (k : Int) := ⟨_, rfl⟩
      rw [← hX] at hx bx HS
      have HX := Aside0.mk hX
      clear hX
      have p7 : (0 ≤ (k : Int)) = True := eq_true (by omega)
      have q7 := eq_true tq
      have q8 := eq_true hlt
      cases hp : prQ x with
      | true =>
        have HP := Aside0.mk hp
        clear hp
        go_wp2_with (go_at_call 29; (with_reducible refine (prq_any x _ bx.1 bx.2).mono ?_); rw [HP.out]; rintro e w2 ⟨rfl, hb⟩; have n0_ := Aside0.mk (below_step HBW.out hb); clear HBW hb; have HBW := n0_; clear n0_)
        go_roundw
        case rel => exact ⟨rfl, rfl, k + 1, by go_num, by omega, ⟨by rw [HS.out, List.all_append, HA.out]; simp [HP.out]⟩, HBW⟩
        case measure => simp [intOf]; omega
      | false =>
        have HP := Aside0.mk hp
        clear hp
        exfalso
        have h9 := List.all_eq_true.1 HH.out x (by rw [HX.out]; exact bt_mem s k hlt)
        have h8 := HP.out
        rw [h8] at h9
        cases h9
    · have hkeq : k = s.size := by omega
      have tl : decide ((k : Int) < (s.size : Int)) = false := decide_eq_false (by omega)
      have tln : decide (k < s.size) = false := decide_eq_false hlt
      have HA2 := Aside0.mk (show ((bytesOf s).all fun c => prQ c) = true from by have h9 := HA.out; rw [hkeq, take_all] at h9; exact h9)
      clear hkeq HA
      go_wp2
      go_ret2
      exact ⟨rfl, HBW.out⟩
set_option maxHeartbeats 4000000 in
set_option maxRecDepth 100000 in
theorem mkp_no (s : ByteArray) (w : World) (hl : s.size ≤ 10000) (h : (bytesOf s).all (fun c => prQ c) = false) : Calls Tryd.prog 17 #[.string s] w (MkBad w) := by
  have HB0 := Aside0.mk (Below.refl w.heap.size w)
  have HH := Aside0.mk h
  clear h
  go_enter Tryd.func17, Tryd.ntmps17
  go_wp2
  go_loopw [2, 3, 4] (fun v2 v3 v4 wr => v2 = .nilIface ∧ v3 = .nilIface ∧ ∃ k : Nat, v4 = .int .i64 (k : Int) ∧ k ≤ s.size ∧ Aside0 ((((bytesOf s).take k).all fun c => prQ c) = true) ∧ Aside0 (Below w.heap.size w wr)) (fun _ _ v4 _ => s.size - (intOf v4).toNat)
  case atStart => exact ⟨rfl, rfl, 0, rfl, Nat.zero_le _, ⟨rfl⟩, HB0⟩
  case round =>
    obtain ⟨rfl, rfl, k, rfl, hk, HA, HBW⟩ := hrel
    by_cases hlt : k < s.size
    · have tl : decide ((k : Int) < (s.size : Int)) = true := decide_eq_true (by omega)
      have tln : decide (k < s.size) = true := decide_eq_true hlt
      have tq : (k : Int) < (s.size : Int) := by omega
      have hx : ∀ h : k < s.size, ((s[k]'h).toNat : Int) = bt s (k : Int) := fun h => by have h9 := bt_at s (k : Int) (by simpa using h); simpa using h9
      have bx := bt_range s (k : Int)
      have HS := Aside0.mk (take_bt s k hlt)
      obtain ⟨x, hX⟩ : ∃ x, x = bt s (k : Int) := ⟨_, rfl⟩
      rw [← hX] at hx bx HS
      have HX := Aside0.mk hX
      clear hX
      have p7 : (0 ≤ (k : Int)) = True := eq_true (by omega)
      have q7 := eq_true tq
      have q8 := eq_true hlt
      cases hp : prQ x with
      | true =>
        have HP := Aside0.mk hp
        clear hp
        go_wp2_with (go_at_call 29; (with_reducible refine (prq_any x _ bx.1 bx.2).mono ?_); rw [HP.out]; rintro e w2 ⟨rfl, hb⟩; have n0_ := Aside0.mk (below_step HBW.out hb); clear HBW hb; have HBW := n0_; clear n0_)
        go_roundw
        case rel => exact ⟨rfl, rfl, k + 1, by go_num, by omega, ⟨by rw [HS.out, List.all_append, HA.out]; simp [HP.out]⟩, HBW⟩
        case measure => simp [intOf]; omega
      | false =>
        have HP := Aside0.mk hp
        clear hp
        go_wp2_with (go_at_call 29; (with_reducible refine (prq_any x _ bx.1 bx.2).mono ?_); rw [HP.out]; rintro e w2 ⟨rfl, hb⟩; have n0_ := Aside0.mk (below_step HBW.out hb); clear HBW hb; have HBW := n0_; clear n0_)
        go_ret2
        exact ⟨_, _, rfl, HBW.out⟩
    · have hkeq : k = s.size := by omega
      have tl : decide ((k : Int) < (s.size : Int)) = false := decide_eq_false (by omega)
      have tln : decide (k < s.size) = false := decide_eq_false hlt
      have HA2 := Aside0.mk (show ((bytesOf s).all fun c => prQ c) = true from by have h9 := HA.out; rw [hkeq, take_all] at h9; exact h9)
      clear hkeq HA
      exfalso
      have h9 := HH.out
      rw [HA2.out] at h9
      cases h9
set_option maxHeartbeats 4000000 in
set_option maxRecDepth 100000 in
theorem mki_yes (s : ByteArray) (w : World) (hl : s.size ≤ 10000) (h : (bytesOf s).all (fun c => ia5B c) = true) : Calls Tryd.prog 18 #[.string s] w (MkGood w s) := by
  have HB0 := Aside0.mk (Below.refl w.heap.size w)
  have HH := Aside0.mk h
  clear h
  go_enter Tryd.func18, Tryd.ntmps18
  go_wp2
  go_loopw [2, 3, 4] (fun v2 v3 v4 wr => v2 = .nilIface ∧ v3 = .nilIface ∧ ∃ k : Nat, v4 = .int .i64 (k : Int) ∧ k ≤ s.size ∧ Aside0 ((((bytesOf s).take k).all fun c => ia5B c) = true) ∧ Aside0 (Below w.heap.size w wr)) (fun _ _ v4 _ => s.size - (intOf v4).toNat)
  case atStart => exact ⟨rfl, rfl, 0, rfl, Nat.zero_le _, ⟨rfl⟩, HB0⟩
  case round =>
    obtain ⟨rfl, rfl, k, rfl, hk, HA, HBW⟩ := hrel
    by_cases hlt : k < s.size
    · have tl : decide ((k : Int) < (s.size : Int)) = true := decide_eq_true (by omega)
      have tln : decide (k < s.size) = true := decide_eq_true hlt
      have tq : (k : Int) < (s.size : Int) := by omega
      have hx : ∀ h : k < s.size, ((s[k]'h).toNat : Int) = bt s (k : Int) := fun h => by have h9 := bt_at s (k : Int) (by simpa using h); simpa using h9
      have bx := bt_range s (k : Int)
      have HS := Aside0.mk (take_bt s k hlt)
      obtain ⟨x, hX⟩ : ∃ x, x = bt s (k : Int) := ⟨_, rfl⟩
      rw [← hX] at hx bx HS
      have HX := Aside0.mk hX
      clear hX
      have p7 : (0 ≤ (k : Int)) = True := eq_true (by omega)
      have q7 := eq_true tq
      have q8 := eq_true hlt
      cases hp : ia5B x with
      | true =>
        have tg : decide (x > 127) = false := decide_eq_false (by have h9 := hp; unfold ia5B at h9; simp at h9; omega)
        have tgn : decide (127 < x) = false := decide_eq_false (by have h9 := hp; unfold ia5B at h9; simp at h9; omega)
        have HP := Aside0.mk hp
        clear hp
        go_wp2
        go_roundw
        case rel => exact ⟨rfl, rfl, k + 1, by go_num, by omega, ⟨by rw [HS.out, List.all_append, HA.out]; simp [HP.out]⟩, HBW⟩
        case measure => simp [intOf]; omega
      | false =>
        have tg : decide (x > 127) = true := decide_eq_true (by have h9 := hp; unfold ia5B at h9; simp at h9; omega)
        have tgn : decide (127 < x) = true := decide_eq_true (by have h9 := hp; unfold ia5B at h9; simp at h9; omega)
        have HP := Aside0.mk hp
        clear hp
        exfalso
        have h9 := List.all_eq_true.1 HH.out x (by rw [HX.out]; exact bt_mem s k hlt)
        have h8 := HP.out
        rw [h8] at h9
        cases h9
    · have hkeq : k = s.size := by omega
      have tl : decide ((k : Int) < (s.size : Int)) = false := decide_eq_false (by omega)
      have tln : decide (k < s.size) = false := decide_eq_false hlt
      have HA2 := Aside0.mk (show ((bytesOf s).all fun c => ia5B c) = true from by have h9 := HA.out; rw [hkeq, take_all] at h9; exact h9)
      clear hkeq HA
      go_wp2
      go_ret2
      exact ⟨rfl, HBW.out⟩
set_option maxHeartbeats 4000000 in
set_option maxRecDepth 100000 in
theorem mki_no (s : ByteArray) (w : World) (hl : s.size ≤ 10000) (h : (bytesOf s).all (fun c => ia5B c) = false) : Calls Tryd.prog 18 #[.string s] w (MkBad w) := by
  have HB0 := Aside0.mk (Below.refl w.heap.size w)
  have HH := Aside0.mk h
  clear h
  go_enter Tryd.func18, Tryd.ntmps18
  go_wp2
  go_loopw [2, 3, 4] (fun v2 v3 v4 wr => v2 = .nilIface ∧ v3 = .nilIface ∧ ∃ k : Nat, v4 = .int .i64 (k : Int) ∧ k ≤ s.size ∧ Aside0 ((((bytesOf s).take k).all fun c => ia5B c) = true) ∧ Aside0 (Below w.heap.size w wr)) (fun _ _ v4 _ => s.size - (intOf v4).toNat)
  case atStart => exact ⟨rfl, rfl, 0, rfl, Nat.zero_le _, ⟨rfl⟩, HB0⟩
  case round =>
    obtain ⟨rfl, rfl, k, rfl, hk, HA, HBW⟩ := hrel
    by_cases hlt : k < s.size
    · have tl : decide ((k : Int) < (s.size : Int)) = true := decide_eq_true (by omega)
      have tln : decide (k < s.size) = true := decide_eq_true hlt
      have tq : (k : Int) < (s.size : Int) := by omega
      have hx : ∀ h : k < s.size, ((s[k]'h).toNat : Int) = bt s (k : Int) := fun h => by have h9 := bt_at s (k : Int) (by simpa using h); simpa using h9
      have bx := bt_range s (k : Int)
      have HS := Aside0.mk (take_bt s k hlt)
      obtain ⟨x, hX⟩ : ∃ x, x = bt s (k : Int) := ⟨_, rfl⟩
      rw [← hX] at hx bx HS
      have HX := Aside0.mk hX
      clear hX
      have p7 : (0 ≤ (k : Int)) = True := eq_true (by omega)
      have q7 := eq_true tq
      have q8 := eq_true hlt
      cases hp : ia5B x with
      | true =>
        have tg : decide (x > 127) = false := decide_eq_false (by have h9 := hp; unfold ia5B at h9; simp at h9; omega)
        have tgn : decide (127 < x) = false := decide_eq_false (by have h9 := hp; unfold ia5B at h9; simp at h9; omega)
        have HP := Aside0.mk hp
        clear hp
        go_wp2
        go_roundw
        case rel => exact ⟨rfl, rfl, k + 1, by go_num, by omega, ⟨by rw [HS.out, List.all_append, HA.out]; simp [HP.out]⟩, HBW⟩
        case measure => simp [intOf]; omega
      | false =>
        have tg : decide (x > 127) = true := decide_eq_true (by have h9 := hp; unfold ia5B at h9; simp at h9; omega)
        have tgn : decide (127 < x) = true := decide_eq_true (by have h9 := hp; unfold ia5B at h9; simp at h9; omega)
        have HP := Aside0.mk hp
        clear hp
        go_wp2
        go_ret2
        exact ⟨_, _, rfl, HBW.out⟩
    · have hkeq : k = s.size := by omega
      have tl : decide ((k : Int) < (s.size : Int)) = false := decide_eq_false (by omega)
      have tln : decide (k < s.size) = false := decide_eq_false hlt
      have HA2 := Aside0.mk (show ((bytesOf s).all fun c => ia5B c) = true from by have h9 := HA.out; rw [hkeq, take_all] at h9; exact h9)
      clear hkeq HA
      exfalso
      have h9 := HH.out
      rw [HA2.out] at h9
      cases h9
end Go.Proofs.YtmiemfgcggkbnaaDoor.QT
