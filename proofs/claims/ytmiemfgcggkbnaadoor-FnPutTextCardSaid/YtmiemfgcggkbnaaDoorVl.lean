/- The law FnReadText walked: true for every kind and every byte string. -/
import Derived.Test.YtmiemfgcggkbnaaDoorVp
import Derived.Lib.SlBytesConst
import Derived.Lib.ValidAsc
import Derived.Lib.ValidLaws
import Derived.Lib.EndianBits
import Derived.Shelf.Unicode.DecodeSlow
import Derived.Laws.BitsAllLaws
namespace Go.Proofs.YtmiemfgcggkbnaaDoor.QT
open Go.BigFrame
open Go.RowKit Go.Proofs.YtmiemfgcggkbnaaDoorW.PrintWords Go.Proofs.YtmiemfgcggkbnaaDoorW.PrintLast Go.Proofs.YtmiemfgcggkbnaaDoorW.PrintMore
set_option linter.unusedVariables false
set_option linter.unusedSimpArgs false
theorem C_const (W : World) (xs : List Int) (fr : Nat × Nat) (hx : xs.length ≤ 1000) : Kd.C (Kd.int .u8) (W.alloc (.cells (xs.map (Value.int .u8)).toArray 5 fr)) (some ⟨W.heap.size, 0, none⟩) xs.length xs := by
  refine Kd.C_of_reads (enc := Value.int .u8) (d := (0 : Int)) (h1 := fun _ => rfl) ⟨rfl, by omega, fun _ => ⟨_, rfl, fun j hj => ?_⟩⟩
  rw [add_plain, cell_of_row _ W.heap.size j _ 5 fr (heap_alloc_new W _)]
  simp [List.getElem?_eq_getElem hj, List.getD_eq_getElem?_getD]
theorem e_str : strOfNums [195, 169] = (⟨#[195, 169]⟩ : ByteArray) := rfl
theorem e_ok : txOk 4 [195, 169] = true := by
  show Lib.validD (strOfNums [195, 169]).data.toList = true
  rw [e_str]
  decide +kernel
theorem RT_const (W : World) (hT : Lib.Utf8Tabs 0 1 W) : Calls Tryd.prog 7 #[.int .i64 4, .slice (some ⟨W.heap.size, 0, none⟩) 2 2] (W.alloc (.cells #[.int .u8 195, .int .u8 169] 5 (2, 3))) (RtGood (W.alloc (.cells #[.int .u8 195, .int .u8 169] 5 (2, 3))) (⟨#[195, 169]⟩ : ByteArray)) :=
  RT_yes (some ⟨W.heap.size, 0, none⟩) 2 4 [195, 169] _ (by omega) (C_const W [195, 169] (2, 3) (by decide)) (by decide) (by unfold bytesIn; decide) (by decide) (Utf8Tabs_below hT (below_alloc (Below.refl _ _) _)) e_ok
theorem tx_call (k : Int) (hk : 0 ≤ k ∧ k ≤ 5) (A0 : Option Addr) (c0 : Nat) (l : List Int) (w : World) (hr0 : Kd.C (Kd.int .u8) w A0 l.length l) (hc0 : l.length ≤ c0) (hby : bytesIn l) (hl : l.length ≤ 200) (ok : Bool) (h : txOk k l = ok) : Calls Tryd.prog 8 #[.int .i64 k, .slice A0 l.length c0] w fun e w' => e = .returned (.tuple #[.string (if ok = true then txS k l else (⟨#[]⟩ : ByteArray)), .bool ok]) ∧ Below w.heap.size w w' := by
  have hf := text_f 300 k hk l hby hl (by omega)
  cases ok with
  | true =>
    rw [if_pos h] at hf
    exact spec_Text.calls 300 k (fun k_ => k_ < w.heap.size) A0 c0 l _ _ w (Kd.V_mk hc0 (Kd.C_F (Kd.heap_int .u8) hr0)) hf
  | false =>
    rw [h, if_neg (by decide)] at hf
    exact spec_Text.calls 300 k (fun k_ => k_ < w.heap.size) A0 c0 l _ _ w (Kd.V_mk hc0 (Kd.C_F (Kd.heap_int .u8) hr0)) hf
set_option maxHeartbeats 4000000 in
set_option maxRecDepth 100000 in
theorem lawRT_e1 (a0 : Int) (A0 : Option Addr) (c0 : Nat) (l : List Int) (w : World) (h0 : 0 ≤ a0 ∧ a0 ≤ 255) (hr0 : Kd.C (Kd.int .u8) w A0 l.length l) (hc0 : l.length ≤ c0) (hby : bytesIn l) (hT : Lib.Utf8Tabs 0 1 w) (h1 : 2147483647 < l.length) : Calls Tryd.prog 4 #[.int .u8 a0, .slice A0 l.length c0] w fun e w' => e = .returned (.bool true) ∧ Below w.heap.size w w' := by
  have HB0 := Aside0.mk (Below.refl w.heap.size w)
  have HR := Aside0.mk hr0
  have HC := Aside0.mk hc0
  have HY := Aside0.mk hby
  have HT := Aside0.mk hT
  have t1 : decide ((2147483647 : Int) < (l.length : Int)) = true := decide_eq_true (by omega)
  have t1n : decide (2147483647 < l.length) = true := decide_eq_true (by omega)
  clear hr0 hc0 hby hT h1
  go_enter Tryd.func4, Tryd.ntmps4
  go_wp2
  go_ret
  exact ⟨rfl, HB0.out⟩
set_option maxHeartbeats 4000000 in
set_option maxRecDepth 100000 in
theorem lawRT_e2 (a0 : Int) (A0 : Option Addr) (c0 : Nat) (l : List Int) (w : World) (h0 : 0 ≤ a0 ∧ a0 ≤ 255) (hr0 : Kd.C (Kd.int .u8) w A0 l.length l) (hc0 : l.length ≤ c0) (hby : bytesIn l) (hT : Lib.Utf8Tabs 0 1 w) (h1 : l.length ≤ 2147483647) (h2 : 200 < l.length) : Calls Tryd.prog 4 #[.int .u8 a0, .slice A0 l.length c0] w fun e w' => e = .returned (.bool true) ∧ Below w.heap.size w w' := by
  have HB0 := Aside0.mk (Below.refl w.heap.size w)
  have HR := Aside0.mk hr0
  have HC := Aside0.mk hc0
  have HY := Aside0.mk hby
  have HT := Aside0.mk hT
  have t1 : decide ((2147483647 : Int) < (l.length : Int)) = false := decide_eq_false (by omega)
  have t1n : decide (2147483647 < l.length) = false := decide_eq_false (by omega)
  have t2 : decide ((200 : Int) < (l.length : Int)) = true := decide_eq_true (by omega)
  have t2n : decide (200 < l.length) = true := decide_eq_true (by omega)
  clear hr0 hc0 hby hT h1
  go_enter Tryd.func4, Tryd.ntmps4
  go_wp2
  go_ret
  exact ⟨rfl, HB0.out⟩
set_option maxHeartbeats 4000000 in
set_option maxRecDepth 100000 in
theorem lawRT_yes (a0 : Int) (A0 : Option Addr) (c0 : Nat) (l : List Int) (w : World) (h0 : 0 ≤ a0 ∧ a0 ≤ 255) (hr0 : Kd.C (Kd.int .u8) w A0 l.length l) (hc0 : l.length ≤ c0) (hby : bytesIn l) (hT : Lib.Utf8Tabs 0 1 w) (h2 : l.length ≤ 200) (hk : txOk (a0 % 6) l = true) : Calls Tryd.prog 4 #[.int .u8 a0, .slice A0 l.length c0] w fun e w' => e = .returned (.bool true) ∧ Below w.heap.size w w' := by
  have HB0 := Aside0.mk (Below.refl w.heap.size w)
  have HR := Aside0.mk hr0
  have HC := Aside0.mk hc0
  have HY := Aside0.mk hby
  have HT := Aside0.mk hT
  have t1 : decide ((2147483647 : Int) < (l.length : Int)) = false := decide_eq_false (by omega)
  have t1n : decide (2147483647 < l.length) = false := decide_eq_false (by omega)
  have t2 : decide ((200 : Int) < (l.length : Int)) = false := decide_eq_false (by omega)
  have t2n : decide (200 < l.length) = false := decide_eq_false (by omega)
  have HK := Aside0.mk hk
  have HL := Aside0.mk h2
  have hk6 : 0 ≤ a0 % 6 ∧ a0 % 6 ≤ 5 := by omega
  have HK6 := Aside0.mk hk6
  have kc := fun (w : World) (C : Array Value) (n c : Nat) => Go.Lib.run_convert_bytes_const (P := Tryd.prog) w 24 5 C n c Tryd.underlying24 Tryd.underlying5
  obtain ⟨S, hS⟩ : ∃ S, S = txS (a0 % 6) l := ⟨_, rfl⟩
  have ES := Aside0.mk hS
  clear hS hk h2
  clear hr0 hc0 hby hT
  go_enter Tryd.func4, Tryd.ntmps4
  go_wp2_with (first
    | (go_at_call 8; (with_reducible refine (tx_call (a0 % 6) HK6.out A0 c0 l _ HR.out HC.out HY.out HL.out true HK.out).mono ?_); rintro e w1 ⟨rfl, hb⟩; have HB1 := Aside0.mk hb; clear hb; rw [if_pos rfl, ← ES.out])
    | (go_at_call 7; (with_reducible refine (RT_yes A0 c0 (a0 % 6) l _ HK6.out (Kd.C_below HR.out HB1.out) HC.out HY.out (Nat.le_trans HL.out (by decide)) (Utf8Tabs_below HT.out HB1.out) HK.out).mono ?_); rintro e w2 ⟨rfl, hb⟩; have HB2 := Aside0.mk (below_step HB1.out hb); clear hb; rw [← ES.out])
    | (go_at_call 7; refine (RT_const w2 (Utf8Tabs_below HT.out HB2.out)).mono ?_; rintro e w3 ⟨rfl, hb⟩; have HB3 := Aside0.mk (below_step (below_alloc HB2.out _) hb); clear hb kc))
  go_ret
  exact ⟨rfl, HB3.out⟩
set_option maxHeartbeats 4000000 in
set_option maxRecDepth 100000 in
theorem lawRT_no (a0 : Int) (A0 : Option Addr) (c0 : Nat) (l : List Int) (w : World) (h0 : 0 ≤ a0 ∧ a0 ≤ 255) (hr0 : Kd.C (Kd.int .u8) w A0 l.length l) (hc0 : l.length ≤ c0) (hby : bytesIn l) (hT : Lib.Utf8Tabs 0 1 w) (h2 : l.length ≤ 200) (hk : txOk (a0 % 6) l = false) : Calls Tryd.prog 4 #[.int .u8 a0, .slice A0 l.length c0] w fun e w' => e = .returned (.bool true) ∧ Below w.heap.size w w' := by
  have HB0 := Aside0.mk (Below.refl w.heap.size w)
  have HR := Aside0.mk hr0
  have HC := Aside0.mk hc0
  have HY := Aside0.mk hby
  have HT := Aside0.mk hT
  have t1 : decide ((2147483647 : Int) < (l.length : Int)) = false := decide_eq_false (by omega)
  have t1n : decide (2147483647 < l.length) = false := decide_eq_false (by omega)
  have t2 : decide ((200 : Int) < (l.length : Int)) = false := decide_eq_false (by omega)
  have t2n : decide (200 < l.length) = false := decide_eq_false (by omega)
  have HK := Aside0.mk hk
  have HL := Aside0.mk h2
  have hk6 : 0 ≤ a0 % 6 ∧ a0 % 6 ≤ 5 := by omega
  have HK6 := Aside0.mk hk6
  have kc := fun (w : World) (C : Array Value) (n c : Nat) => Go.Lib.run_convert_bytes_const (P := Tryd.prog) w 24 5 C n c Tryd.underlying24 Tryd.underlying5
  obtain ⟨S, hS⟩ : ∃ S, S = txS (a0 % 6) l := ⟨_, rfl⟩
  have ES := Aside0.mk hS
  clear hS hk h2
  clear hr0 hc0 hby hT
  go_enter Tryd.func4, Tryd.ntmps4
  go_wp2_with (first
    | (go_at_call 8; (with_reducible refine (tx_call (a0 % 6) HK6.out A0 c0 l _ HR.out HC.out HY.out HL.out false HK.out).mono ?_); rintro e w1 ⟨rfl, hb⟩; have HB1 := Aside0.mk hb; clear hb; rw [if_neg (by decide)])
    | (go_at_call 7; (with_reducible refine (RT_no A0 c0 (a0 % 6) l _ HK6.out (Kd.C_below HR.out HB1.out) HC.out HY.out (Nat.le_trans HL.out (by decide)) (Utf8Tabs_below HT.out HB1.out) HK.out).mono ?_); rintro e w2 ⟨rfl, hb⟩; have HB2 := Aside0.mk (below_step HB1.out hb); clear hb)
    | (go_at_call 7; refine (RT_const w2 (Utf8Tabs_below HT.out HB2.out)).mono ?_; rintro e w3 ⟨rfl, hb⟩; have HB3 := Aside0.mk (below_step (below_alloc HB2.out _) hb); clear hb kc))
  go_ret
  exact ⟨rfl, HB3.out⟩
theorem lawRT (a0 : Int) (A0 : Option Addr) (c0 : Nat) (l : List Int) (w : World) (h0 : 0 ≤ a0 ∧ a0 ≤ 255) (hr0 : Kd.C (Kd.int .u8) w A0 l.length l) (hc0 : l.length ≤ c0) (hby : bytesIn l) (hT : Lib.Utf8Tabs 0 1 w) : Calls Tryd.prog 4 #[.int .u8 a0, .slice A0 l.length c0] w fun e w' => e = .returned (.bool true) ∧ Below w.heap.size w w' := by
  by_cases h1 : 2147483647 < l.length
  · exact lawRT_e1 a0 A0 c0 l w h0 hr0 hc0 hby hT h1
  by_cases h2 : 200 < l.length
  · exact lawRT_e2 a0 A0 c0 l w h0 hr0 hc0 hby hT (by omega) h2
  cases hk : txOk (a0 % 6) l with
  | true => exact lawRT_yes a0 A0 c0 l w h0 hr0 hc0 hby hT (by omega) hk
  | false => exact lawRT_no a0 A0 c0 l w h0 hr0 hc0 hby hT (by omega) hk
end Go.Proofs.YtmiemfgcggkbnaaDoor.QT
