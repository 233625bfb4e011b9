/- The law FnPutText walked: true for every kind and every string. -/
import Derived.Test.YtmiemfgcggkbnaaDoorVn
import Derived.Test.YtmiemfgcggkbnaaDoorVi
import Derived.Test.YtmiemfgcggkbnaaDoorVm
import Derived.Lib.ValidAsc
import Derived.Lib.ValidLaws
import Derived.Lib.EndianBits
import Derived.Shelf.Unicode.DecodeSlow
import Derived.Laws.BitsAllLaws
namespace Go.Proofs.YtmiemfgcggkbnaaDoor.QT
open Go.BigFrame
open Go.RowKit Go.Proofs.YtmiemfgcggkbnaaDoorW.PrintWords Go.Proofs.YtmiemfgcggkbnaaDoorW.PrintLast Go.Proofs.YtmiemfgcggkbnaaDoorW.PrintMore
set_option linter.unusedVariables false
set_option linter.unusedSimpArgs false
theorem grown_ge (W : World) (s : ByteArray) : s.size ≤ grownCap W s.size 0 5 := by
  first | exact grownCap_ge _ _ _ _ | exact World.grownCap_ge _ _ _ _ | exact Go.grownCap_ge _ _ _ _
set_option maxHeartbeats 4000000 in
set_option maxRecDepth 100000 in
theorem lawPT_e1 (a0 : Int) (s : ByteArray) (w : World) (h0 : 0 ≤ a0 ∧ a0 ≤ 255) (hT : Lib.Utf8Tabs 0 1 w) (h1 : 2147483647 < s.size) : Calls Tryd.prog 3 #[.int .u8 a0, .string s] w fun e w' => e = .returned (.bool true) ∧ Below w.heap.size w w' := by
  have HB0 := Aside0.mk (Below.refl w.heap.size w)
  have HT := Aside0.mk hT
  clear hT
  have t1 : decide ((2147483647 : Int) < (s.size : Int)) = true := decide_eq_true (by omega)
  have t1n : decide (2147483647 < s.size) = true := decide_eq_true (by omega)
  go_enter Tryd.func3, Tryd.ntmps3
  go_wp2
  go_ret
  exact ⟨rfl, HB0.out⟩
set_option maxHeartbeats 4000000 in
set_option maxRecDepth 100000 in
theorem lawPT_e2 (a0 : Int) (s : ByteArray) (w : World) (h0 : 0 ≤ a0 ∧ a0 ≤ 255) (hT : Lib.Utf8Tabs 0 1 w) (h1 : s.size ≤ 2147483647) (h2 : 200 < s.size) : Calls Tryd.prog 3 #[.int .u8 a0, .string s] w fun e w' => e = .returned (.bool true) ∧ Below w.heap.size w w' := by
  have HB0 := Aside0.mk (Below.refl w.heap.size w)
  have HT := Aside0.mk hT
  clear hT
  have t1 : decide ((2147483647 : Int) < (s.size : Int)) = false := decide_eq_false (by omega)
  have t1n : decide (2147483647 < s.size) = false := decide_eq_false (by omega)
  have t2 : decide ((200 : Int) < (s.size : Int)) = true := decide_eq_true (by omega)
  have t2n : decide (200 < s.size) = true := decide_eq_true (by omega)
  go_enter Tryd.func3, Tryd.ntmps3
  go_wp2
  go_ret
  exact ⟨rfl, HB0.out⟩
set_option maxHeartbeats 4000000 in
set_option maxRecDepth 100000 in
theorem lawPT_j0_tt (a0 : Int) (s : ByteArray) (w : World) (h0 : 0 ≤ a0 ∧ a0 ≤ 255) (hT : Lib.Utf8Tabs 0 1 w) (h2 : s.size ≤ 200) (hj : a0 % 4 = 0) (hw : wrOk 0 s = true) (ht : txOk 0 (bytesOf s) = true) : Calls Tryd.prog 3 #[.int .u8 a0, .string s] w fun e w' => e = .returned (.bool true) ∧ Below w.heap.size w w' := by
  have HB0 := Aside0.mk (Below.refl w.heap.size w)
  have HT := Aside0.mk hT
  clear hT
  have t1 : decide ((2147483647 : Int) < (s.size : Int)) = false := decide_eq_false (by omega)
  have t1n : decide (2147483647 < s.size) = false := decide_eq_false (by omega)
  have t2 : decide ((200 : Int) < (s.size : Int)) = false := decide_eq_false (by omega)
  have t2n : decide (200 < s.size) = false := decide_eq_false (by omega)
  have HL := Aside0.mk h2
  have HW := Aside0.mk hw
  have HX := Aside0.mk ht
  clear ht
  have hjn : (a0 % 4).toNat = 0 := by omega
  have kb := fun (W : World) => print_bytes (P := Tryd.prog) 9 24 5 Tryd.underlying9 Tryd.underlying24 Tryd.underlying5 s W
  clear h2 hw
  go_enter Tryd.func3, Tryd.ntmps3
  go_wp2_with (first
    | (go_at_call 5; (with_reducible refine (wr_call 0 (by omega) s HL.out true HW.out _).mono ?_); rintro e w1 ⟨rfl, hb⟩; have HB1 := Aside0.mk (below_step (below_alloc HB0.out _) hb); clear hb)
    | (go_at_call 6; (with_reducible refine (pt_yes 0 s _ (by omega) HL.out HW.out).mono ?_); rintro e w2 ⟨v2, rfl, ho, hb⟩; have HB2 := Aside0.mk (below_step HB1.out hb); obtain ⟨A5, c5, e5, hc5, hr5⟩ := Kd.R_reads ho; subst e5; have HR5 := Aside0.mk hr5; have HC5 := Aside0.mk hc5; clear hb ho hr5 hc5)
    | (go_at_call 6; (with_reducible refine (pt_a _).mono ?_); rintro e w3 ⟨v3, rfl, ho, hb⟩; have HB23 := Aside0.mk hb; have HB3 := Aside0.mk (below_step HB2.out hb); clear hb ho)
    | (go_at_call 7; (with_reducible refine (rt_call_yes A5 _ c5 0 (by omega) s HL.out _ (Kd.C_below HR5.out HB23.out) rfl HC5.out (Utf8Tabs_below HT.out HB3.out) HX.out).mono ?_); rintro e w4 ⟨rfl, hb⟩; have HB24 := Aside0.mk (below_step HB23.out hb); have HB4 := Aside0.mk (below_step HB3.out hb); have HV := Aside0.mk (conv_C w4 s HL.out); have HBV := Aside0.mk (bytes_below HB4.out HB4.out.size 5 s); have HBW := Aside0.mk (bytes_below HB24.out HB24.out.size 5 s); clear hb)
    | (go_at_call 8; (with_reducible refine (tx_call_yes _ _ _ 0 (by omega) s HL.out _ HV.out (bytesOf_length s).symm (grown_ge _ _) HX.out).mono ?_); rintro e w5 ⟨rfl, hb⟩; have HB5 := Aside0.mk (below_step HBV.out hb); have hcv := Kd.C_string (P := Tryd.prog) (A := A5) (c := c5) Tryd.underlying24 Tryd.underlying5 Tryd.underlying9 (Kd.C_below HR5.out (below_step HBW.out hb)); rw [str_bytesOf] at hcv; clear hb kb))
  go_ret
  exact ⟨rfl, HB5.out⟩
set_option maxHeartbeats 4000000 in
set_option maxRecDepth 100000 in
theorem lawPT_j0_tf (a0 : Int) (s : ByteArray) (w : World) (h0 : 0 ≤ a0 ∧ a0 ≤ 255) (hT : Lib.Utf8Tabs 0 1 w) (h2 : s.size ≤ 200) (hj : a0 % 4 = 0) (hw : wrOk 0 s = true) (ht : txOk 0 (bytesOf s) = false) : Calls Tryd.prog 3 #[.int .u8 a0, .string s] w fun e w' => e = .returned (.bool true) ∧ Below w.heap.size w w' := by
  have HB0 := Aside0.mk (Below.refl w.heap.size w)
  have HT := Aside0.mk hT
  clear hT
  have t1 : decide ((2147483647 : Int) < (s.size : Int)) = false := decide_eq_false (by omega)
  have t1n : decide (2147483647 < s.size) = false := decide_eq_false (by omega)
  have t2 : decide ((200 : Int) < (s.size : Int)) = false := decide_eq_false (by omega)
  have t2n : decide (200 < s.size) = false := decide_eq_false (by omega)
  have HL := Aside0.mk h2
  have HW := Aside0.mk hw
  have HX := Aside0.mk ht
  clear ht
  have hjn : (a0 % 4).toNat = 0 := by omega
  have kb := fun (W : World) => print_bytes (P := Tryd.prog) 9 24 5 Tryd.underlying9 Tryd.underlying24 Tryd.underlying5 s W
  clear h2 hw
  go_enter Tryd.func3, Tryd.ntmps3
  go_wp2_with (first
    | (go_at_call 5; (with_reducible refine (wr_call 0 (by omega) s HL.out true HW.out _).mono ?_); rintro e w1 ⟨rfl, hb⟩; have HB1 := Aside0.mk (below_step (below_alloc HB0.out _) hb); clear hb)
    | (go_at_call 6; (with_reducible refine (pt_yes 0 s _ (by omega) HL.out HW.out).mono ?_); rintro e w2 ⟨v2, rfl, ho, hb⟩; have HB2 := Aside0.mk (below_step HB1.out hb); obtain ⟨A5, c5, e5, hc5, hr5⟩ := Kd.R_reads ho; subst e5; have HR5 := Aside0.mk hr5; have HC5 := Aside0.mk hc5; clear hb ho hr5 hc5)
    | (go_at_call 6; (with_reducible refine (pt_a _).mono ?_); rintro e w3 ⟨v3, rfl, ho, hb⟩; have HB23 := Aside0.mk hb; have HB3 := Aside0.mk (below_step HB2.out hb); clear hb ho)
    | (go_at_call 7; (with_reducible refine (rt_call_no A5 _ c5 0 (by omega) s HL.out _ (Kd.C_below HR5.out HB23.out) rfl HC5.out (Utf8Tabs_below HT.out HB3.out) HX.out).mono ?_); rintro e w4 ⟨rfl, hb⟩; have HB24 := Aside0.mk (below_step HB23.out hb); have HB4 := Aside0.mk (below_step HB3.out hb); have HV := Aside0.mk (conv_C w4 s HL.out); have HBV := Aside0.mk (bytes_below HB4.out HB4.out.size 5 s); have HBW := Aside0.mk (bytes_below HB24.out HB24.out.size 5 s); clear hb)
    | (go_at_call 8; (with_reducible refine (tx_call_no _ _ _ 0 (by omega) s HL.out _ HV.out (bytesOf_length s).symm (grown_ge _ _) HX.out).mono ?_); rintro e w5 ⟨rfl, hb⟩; have HB5 := Aside0.mk (below_step HBV.out hb); have hcv := Kd.C_string (P := Tryd.prog) (A := A5) (c := c5) Tryd.underlying24 Tryd.underlying5 Tryd.underlying9 (Kd.C_below HR5.out (below_step HBW.out hb)); rw [str_bytesOf] at hcv; clear hb kb))
  go_ret
  exact ⟨rfl, HB5.out⟩
set_option maxHeartbeats 4000000 in
set_option maxRecDepth 100000 in
theorem lawPT_j1_tt (a0 : Int) (s : ByteArray) (w : World) (h0 : 0 ≤ a0 ∧ a0 ≤ 255) (hT : Lib.Utf8Tabs 0 1 w) (h2 : s.size ≤ 200) (hj : a0 % 4 = 1) (hw : wrOk 1 s = true) (ht : txOk 1 (bytesOf s) = true) : Calls Tryd.prog 3 #[.int .u8 a0, .string s] w fun e w' => e = .returned (.bool true) ∧ Below w.heap.size w w' := by
  have HB0 := Aside0.mk (Below.refl w.heap.size w)
  have HT := Aside0.mk hT
  clear hT
  have t1 : decide ((2147483647 : Int) < (s.size : Int)) = false := decide_eq_false (by omega)
  have t1n : decide (2147483647 < s.size) = false := decide_eq_false (by omega)
  have t2 : decide ((200 : Int) < (s.size : Int)) = false := decide_eq_false (by omega)
  have t2n : decide (200 < s.size) = false := decide_eq_false (by omega)
  have HL := Aside0.mk h2
  have HW := Aside0.mk hw
  have HX := Aside0.mk ht
  clear ht
  have hjn : (a0 % 4).toNat = 1 := by omega
  have kb := fun (W : World) => print_bytes (P := Tryd.prog) 9 24 5 Tryd.underlying9 Tryd.underlying24 Tryd.underlying5 s W
  clear h2 hw
  go_enter Tryd.func3, Tryd.ntmps3
  go_wp2_with (first
    | (go_at_call 5; (with_reducible refine (wr_call 1 (by omega) s HL.out true HW.out _).mono ?_); rintro e w1 ⟨rfl, hb⟩; have HB1 := Aside0.mk (below_step (below_alloc HB0.out _) hb); clear hb)
    | (go_at_call 6; (with_reducible refine (pt_yes 1 s _ (by omega) HL.out HW.out).mono ?_); rintro e w2 ⟨v2, rfl, ho, hb⟩; have HB2 := Aside0.mk (below_step HB1.out hb); obtain ⟨A5, c5, e5, hc5, hr5⟩ := Kd.R_reads ho; subst e5; have HR5 := Aside0.mk hr5; have HC5 := Aside0.mk hc5; clear hb ho hr5 hc5)
    | (go_at_call 6; (with_reducible refine (pt_a _).mono ?_); rintro e w3 ⟨v3, rfl, ho, hb⟩; have HB23 := Aside0.mk hb; have HB3 := Aside0.mk (below_step HB2.out hb); clear hb ho)
    | (go_at_call 7; (with_reducible refine (rt_call_yes A5 _ c5 1 (by omega) s HL.out _ (Kd.C_below HR5.out HB23.out) rfl HC5.out (Utf8Tabs_below HT.out HB3.out) HX.out).mono ?_); rintro e w4 ⟨rfl, hb⟩; have HB24 := Aside0.mk (below_step HB23.out hb); have HB4 := Aside0.mk (below_step HB3.out hb); have HV := Aside0.mk (conv_C w4 s HL.out); have HBV := Aside0.mk (bytes_below HB4.out HB4.out.size 5 s); have HBW := Aside0.mk (bytes_below HB24.out HB24.out.size 5 s); clear hb)
    | (go_at_call 8; (with_reducible refine (tx_call_yes _ _ _ 1 (by omega) s HL.out _ HV.out (bytesOf_length s).symm (grown_ge _ _) HX.out).mono ?_); rintro e w5 ⟨rfl, hb⟩; have HB5 := Aside0.mk (below_step HBV.out hb); have hcv := Kd.C_string (P := Tryd.prog) (A := A5) (c := c5) Tryd.underlying24 Tryd.underlying5 Tryd.underlying9 (Kd.C_below HR5.out (below_step HBW.out hb)); rw [str_bytesOf] at hcv; clear hb kb))
  go_ret
  exact ⟨rfl, HB5.out⟩
set_option maxHeartbeats 4000000 in
set_option maxRecDepth 100000 in
theorem lawPT_j1_tf (a0 : Int) (s : ByteArray) (w : World) (h0 : 0 ≤ a0 ∧ a0 ≤ 255) (hT : Lib.Utf8Tabs 0 1 w) (h2 : s.size ≤ 200) (hj : a0 % 4 = 1) (hw : wrOk 1 s = true) (ht : txOk 1 (bytesOf s) = false) : Calls Tryd.prog 3 #[.int .u8 a0, .string s] w fun e w' => e = .returned (.bool true) ∧ Below w.heap.size w w' := by
  have HB0 := Aside0.mk (Below.refl w.heap.size w)
  have HT := Aside0.mk hT
  clear hT
  have t1 : decide ((2147483647 : Int) < (s.size : Int)) = false := decide_eq_false (by omega)
  have t1n : decide (2147483647 < s.size) = false := decide_eq_false (by omega)
  have t2 : decide ((200 : Int) < (s.size : Int)) = false := decide_eq_false (by omega)
  have t2n : decide (200 < s.size) = false := decide_eq_false (by omega)
  have HL := Aside0.mk h2
  have HW := Aside0.mk hw
  have HX := Aside0.mk ht
  clear ht
  have hjn : (a0 % 4).toNat = 1 := by omega
  have kb := fun (W : World) => print_bytes (P := Tryd.prog) 9 24 5 Tryd.underlying9 Tryd.underlying24 Tryd.underlying5 s W
  clear h2 hw
  go_enter Tryd.func3, Tryd.ntmps3
  go_wp2_with (first
    | (go_at_call 5; (with_reducible refine (wr_call 1 (by omega) s HL.out true HW.out _).mono ?_); rintro e w1 ⟨rfl, hb⟩; have HB1 := Aside0.mk (below_step (below_alloc HB0.out _) hb); clear hb)
    | (go_at_call 6; (with_reducible refine (pt_yes 1 s _ (by omega) HL.out HW.out).mono ?_); rintro e w2 ⟨v2, rfl, ho, hb⟩; have HB2 := Aside0.mk (below_step HB1.out hb); obtain ⟨A5, c5, e5, hc5, hr5⟩ := Kd.R_reads ho; subst e5; have HR5 := Aside0.mk hr5; have HC5 := Aside0.mk hc5; clear hb ho hr5 hc5)
    | (go_at_call 6; (with_reducible refine (pt_a _).mono ?_); rintro e w3 ⟨v3, rfl, ho, hb⟩; have HB23 := Aside0.mk hb; have HB3 := Aside0.mk (below_step HB2.out hb); clear hb ho)
    | (go_at_call 7; (with_reducible refine (rt_call_no A5 _ c5 1 (by omega) s HL.out _ (Kd.C_below HR5.out HB23.out) rfl HC5.out (Utf8Tabs_below HT.out HB3.out) HX.out).mono ?_); rintro e w4 ⟨rfl, hb⟩; have HB24 := Aside0.mk (below_step HB23.out hb); have HB4 := Aside0.mk (below_step HB3.out hb); have HV := Aside0.mk (conv_C w4 s HL.out); have HBV := Aside0.mk (bytes_below HB4.out HB4.out.size 5 s); have HBW := Aside0.mk (bytes_below HB24.out HB24.out.size 5 s); clear hb)
    | (go_at_call 8; (with_reducible refine (tx_call_no _ _ _ 1 (by omega) s HL.out _ HV.out (bytesOf_length s).symm (grown_ge _ _) HX.out).mono ?_); rintro e w5 ⟨rfl, hb⟩; have HB5 := Aside0.mk (below_step HBV.out hb); have hcv := Kd.C_string (P := Tryd.prog) (A := A5) (c := c5) Tryd.underlying24 Tryd.underlying5 Tryd.underlying9 (Kd.C_below HR5.out (below_step HBW.out hb)); rw [str_bytesOf] at hcv; clear hb kb))
  go_ret
  exact ⟨rfl, HB5.out⟩
set_option maxHeartbeats 4000000 in
set_option maxRecDepth 100000 in
theorem lawPT_j2_tt (a0 : Int) (s : ByteArray) (w : World) (h0 : 0 ≤ a0 ∧ a0 ≤ 255) (hT : Lib.Utf8Tabs 0 1 w) (h2 : s.size ≤ 200) (hj : a0 % 4 = 2) (hw : wrOk 2 s = true) (ht : txOk 2 (bytesOf s) = true) : Calls Tryd.prog 3 #[.int .u8 a0, .string s] w fun e w' => e = .returned (.bool true) ∧ Below w.heap.size w w' := by
  have HB0 := Aside0.mk (Below.refl w.heap.size w)
  have HT := Aside0.mk hT
  clear hT
  have t1 : decide ((2147483647 : Int) < (s.size : Int)) = false := decide_eq_false (by omega)
  have t1n : decide (2147483647 < s.size) = false := decide_eq_false (by omega)
  have t2 : decide ((200 : Int) < (s.size : Int)) = false := decide_eq_false (by omega)
  have t2n : decide (200 < s.size) = false := decide_eq_false (by omega)
  have HL := Aside0.mk h2
  have HW := Aside0.mk hw
  have HX := Aside0.mk ht
  clear ht
  have hjn : (a0 % 4).toNat = 2 := by omega
  have kb := fun (W : World) => print_bytes (P := Tryd.prog) 9 24 5 Tryd.underlying9 Tryd.underlying24 Tryd.underlying5 s W
  clear h2 hw
  go_enter Tryd.func3, Tryd.ntmps3
  go_wp2_with (first
    | (go_at_call 5; (with_reducible refine (wr_call 2 (by omega) s HL.out true HW.out _).mono ?_); rintro e w1 ⟨rfl, hb⟩; have HB1 := Aside0.mk (below_step (below_alloc HB0.out _) hb); clear hb)
    | (go_at_call 6; (with_reducible refine (pt_yes 2 s _ (by omega) HL.out HW.out).mono ?_); rintro e w2 ⟨v2, rfl, ho, hb⟩; have HB2 := Aside0.mk (below_step HB1.out hb); obtain ⟨A5, c5, e5, hc5, hr5⟩ := Kd.R_reads ho; subst e5; have HR5 := Aside0.mk hr5; have HC5 := Aside0.mk hc5; clear hb ho hr5 hc5)
    | (go_at_call 6; (with_reducible refine (pt_a _).mono ?_); rintro e w3 ⟨v3, rfl, ho, hb⟩; have HB23 := Aside0.mk hb; have HB3 := Aside0.mk (below_step HB2.out hb); clear hb ho)
    | (go_at_call 7; (with_reducible refine (rt_call_yes A5 _ c5 2 (by omega) s HL.out _ (Kd.C_below HR5.out HB23.out) rfl HC5.out (Utf8Tabs_below HT.out HB3.out) HX.out).mono ?_); rintro e w4 ⟨rfl, hb⟩; have HB24 := Aside0.mk (below_step HB23.out hb); have HB4 := Aside0.mk (below_step HB3.out hb); have HV := Aside0.mk (conv_C w4 s HL.out); have HBV := Aside0.mk (bytes_below HB4.out HB4.out.size 5 s); have HBW := Aside0.mk (bytes_below HB24.out HB24.out.size 5 s); clear hb)
    | (go_at_call 8; (with_reducible refine (tx_call_yes _ _ _ 2 (by omega) s HL.out _ HV.out (bytesOf_length s).symm (grown_ge _ _) HX.out).mono ?_); rintro e w5 ⟨rfl, hb⟩; have HB5 := Aside0.mk (below_step HBV.out hb); have hcv := Kd.C_string (P := Tryd.prog) (A := A5) (c := c5) Tryd.underlying24 Tryd.underlying5 Tryd.underlying9 (Kd.C_below HR5.out (below_step HBW.out hb)); rw [str_bytesOf] at hcv; clear hb kb))
  go_ret
  exact ⟨rfl, HB5.out⟩
set_option maxHeartbeats 4000000 in
set_option maxRecDepth 100000 in
theorem lawPT_j2_tf (a0 : Int) (s : ByteArray) (w : World) (h0 : 0 ≤ a0 ∧ a0 ≤ 255) (hT : Lib.Utf8Tabs 0 1 w) (h2 : s.size ≤ 200) (hj : a0 % 4 = 2) (hw : wrOk 2 s = true) (ht : txOk 2 (bytesOf s) = false) : Calls Tryd.prog 3 #[.int .u8 a0, .string s] w fun e w' => e = .returned (.bool true) ∧ Below w.heap.size w w' := by
  have HB0 := Aside0.mk (Below.refl w.heap.size w)
  have HT := Aside0.mk hT
  clear hT
  have t1 : decide ((2147483647 : Int) < (s.size : Int)) = false := decide_eq_false (by omega)
  have t1n : decide (2147483647 < s.size) = false := decide_eq_false (by omega)
  have t2 : decide ((200 : Int) < (s.size : Int)) = false := decide_eq_false (by omega)
  have t2n : decide (200 < s.size) = false := decide_eq_false (by omega)
  have HL := Aside0.mk h2
  have HW := Aside0.mk hw
  have HX := Aside0.mk ht
  clear ht
  have hjn : (a0 % 4).toNat = 2 := by omega
  have kb := fun (W : World) => print_bytes (P := Tryd.prog) 9 24 5 Tryd.underlying9 Tryd.underlying24 Tryd.underlying5 s W
  clear h2 hw
  go_enter Tryd.func3, Tryd.ntmps3
  go_wp2_with (first
    | (go_at_call 5; (with_reducible refine (wr_call 2 (by omega) s HL.out true HW.out _).mono ?_); rintro e w1 ⟨rfl, hb⟩; have HB1 := Aside0.mk (below_step (below_alloc HB0.out _) hb); clear hb)
    | (go_at_call 6; (with_reducible refine (pt_yes 2 s _ (by omega) HL.out HW.out).mono ?_); rintro e w2 ⟨v2, rfl, ho, hb⟩; have HB2 := Aside0.mk (below_step HB1.out hb); obtain ⟨A5, c5, e5, hc5, hr5⟩ := Kd.R_reads ho; subst e5; have HR5 := Aside0.mk hr5; have HC5 := Aside0.mk hc5; clear hb ho hr5 hc5)
    | (go_at_call 6; (with_reducible refine (pt_a _).mono ?_); rintro e w3 ⟨v3, rfl, ho, hb⟩; have HB23 := Aside0.mk hb; have HB3 := Aside0.mk (below_step HB2.out hb); clear hb ho)
    | (go_at_call 7; (with_reducible refine (rt_call_no A5 _ c5 2 (by omega) s HL.out _ (Kd.C_below HR5.out HB23.out) rfl HC5.out (Utf8Tabs_below HT.out HB3.out) HX.out).mono ?_); rintro e w4 ⟨rfl, hb⟩; have HB24 := Aside0.mk (below_step HB23.out hb); have HB4 := Aside0.mk (below_step HB3.out hb); have HV := Aside0.mk (conv_C w4 s HL.out); have HBV := Aside0.mk (bytes_below HB4.out HB4.out.size 5 s); have HBW := Aside0.mk (bytes_below HB24.out HB24.out.size 5 s); clear hb)
    | (go_at_call 8; (with_reducible refine (tx_call_no _ _ _ 2 (by omega) s HL.out _ HV.out (bytesOf_length s).symm (grown_ge _ _) HX.out).mono ?_); rintro e w5 ⟨rfl, hb⟩; have HB5 := Aside0.mk (below_step HBV.out hb); have hcv := Kd.C_string (P := Tryd.prog) (A := A5) (c := c5) Tryd.underlying24 Tryd.underlying5 Tryd.underlying9 (Kd.C_below HR5.out (below_step HBW.out hb)); rw [str_bytesOf] at hcv; clear hb kb))
  go_ret
  exact ⟨rfl, HB5.out⟩
set_option maxHeartbeats 4000000 in
set_option maxRecDepth 100000 in
theorem lawPT_j3_tt (a0 : Int) (s : ByteArray) (w : World) (h0 : 0 ≤ a0 ∧ a0 ≤ 255) (hT : Lib.Utf8Tabs 0 1 w) (h2 : s.size ≤ 200) (hj : a0 % 4 = 3) (hw : wrOk 4 s = true) (ht : txOk 4 (bytesOf s) = true) : Calls Tryd.prog 3 #[.int .u8 a0, .string s] w fun e w' => e = .returned (.bool true) ∧ Below w.heap.size w w' := by
  have HB0 := Aside0.mk (Below.refl w.heap.size w)
  have HT := Aside0.mk hT
  clear hT
  have t1 : decide ((2147483647 : Int) < (s.size : Int)) = false := decide_eq_false (by omega)
  have t1n : decide (2147483647 < s.size) = false := decide_eq_false (by omega)
  have t2 : decide ((200 : Int) < (s.size : Int)) = false := decide_eq_false (by omega)
  have t2n : decide (200 < s.size) = false := decide_eq_false (by omega)
  have HL := Aside0.mk h2
  have HW := Aside0.mk hw
  have HX := Aside0.mk ht
  clear ht
  have hjn : (a0 % 4).toNat = 3 := by omega
  have kb := fun (W : World) => print_bytes (P := Tryd.prog) 9 24 5 Tryd.underlying9 Tryd.underlying24 Tryd.underlying5 s W
  clear h2 hw
  go_enter Tryd.func3, Tryd.ntmps3
  go_wp2_with (first
    | (go_at_call 5; (with_reducible refine (wr_call 4 (by omega) s HL.out true HW.out _).mono ?_); rintro e w1 ⟨rfl, hb⟩; have HB1 := Aside0.mk (below_step (below_alloc HB0.out _) hb); clear hb)
    | (go_at_call 6; (with_reducible refine (pt_yes 4 s _ (by omega) HL.out HW.out).mono ?_); rintro e w2 ⟨v2, rfl, ho, hb⟩; have HB2 := Aside0.mk (below_step HB1.out hb); obtain ⟨A5, c5, e5, hc5, hr5⟩ := Kd.R_reads ho; subst e5; have HR5 := Aside0.mk hr5; have HC5 := Aside0.mk hc5; clear hb ho hr5 hc5)
    | (go_at_call 6; (with_reducible refine (pt_a _).mono ?_); rintro e w3 ⟨v3, rfl, ho, hb⟩; have HB23 := Aside0.mk hb; have HB3 := Aside0.mk (below_step HB2.out hb); clear hb ho)
    | (go_at_call 7; (with_reducible refine (rt_call_yes A5 _ c5 4 (by omega) s HL.out _ (Kd.C_below HR5.out HB23.out) rfl HC5.out (Utf8Tabs_below HT.out HB3.out) HX.out).mono ?_); rintro e w4 ⟨rfl, hb⟩; have HB24 := Aside0.mk (below_step HB23.out hb); have HB4 := Aside0.mk (below_step HB3.out hb); have HV := Aside0.mk (conv_C w4 s HL.out); have HBV := Aside0.mk (bytes_below HB4.out HB4.out.size 5 s); have HBW := Aside0.mk (bytes_below HB24.out HB24.out.size 5 s); clear hb)
    | (go_at_call 8; (with_reducible refine (tx_call_yes _ _ _ 4 (by omega) s HL.out _ HV.out (bytesOf_length s).symm (grown_ge _ _) HX.out).mono ?_); rintro e w5 ⟨rfl, hb⟩; have HB5 := Aside0.mk (below_step HBV.out hb); have hcv := Kd.C_string (P := Tryd.prog) (A := A5) (c := c5) Tryd.underlying24 Tryd.underlying5 Tryd.underlying9 (Kd.C_below HR5.out (below_step HBW.out hb)); rw [str_bytesOf] at hcv; clear hb kb))
  go_ret
  exact ⟨rfl, HB5.out⟩
set_option maxHeartbeats 4000000 in
set_option maxRecDepth 100000 in
theorem lawPT_j3_tf (a0 : Int) (s : ByteArray) (w : World) (h0 : 0 ≤ a0 ∧ a0 ≤ 255) (hT : Lib.Utf8Tabs 0 1 w) (h2 : s.size ≤ 200) (hj : a0 % 4 = 3) (hw : wrOk 4 s = true) (ht : txOk 4 (bytesOf s) = false) : Calls Tryd.prog 3 #[.int .u8 a0, .string s] w fun e w' => e = .returned (.bool true) ∧ Below w.heap.size w w' := by
  have HB0 := Aside0.mk (Below.refl w.heap.size w)
  have HT := Aside0.mk hT
  clear hT
  have t1 : decide ((2147483647 : Int) < (s.size : Int)) = false := decide_eq_false (by omega)
  have t1n : decide (2147483647 < s.size) = false := decide_eq_false (by omega)
  have t2 : decide ((200 : Int) < (s.size : Int)) = false := decide_eq_false (by omega)
  have t2n : decide (200 < s.size) = false := decide_eq_false (by omega)
  have HL := Aside0.mk h2
  have HW := Aside0.mk hw
  have HX := Aside0.mk ht
  clear ht
  have hjn : (a0 % 4).toNat = 3 := by omega
  have kb := fun (W : World) => print_bytes (P := Tryd.prog) 9 24 5 Tryd.underlying9 Tryd.underlying24 Tryd.underlying5 s W
  clear h2 hw
  go_enter Tryd.func3, Tryd.ntmps3
  go_wp2_with (first
    | (go_at_call 5; (with_reducible refine (wr_call 4 (by omega) s HL.out true HW.out _).mono ?_); rintro e w1 ⟨rfl, hb⟩; have HB1 := Aside0.mk (below_step (below_alloc HB0.out _) hb); clear hb)
    | (go_at_call 6; (with_reducible refine (pt_yes 4 s _ (by omega) HL.out HW.out).mono ?_); rintro e w2 ⟨v2, rfl, ho, hb⟩; have HB2 := Aside0.mk (below_step HB1.out hb); obtain ⟨A5, c5, e5, hc5, hr5⟩ := Kd.R_reads ho; subst e5; have HR5 := Aside0.mk hr5; have HC5 := Aside0.mk hc5; clear hb ho hr5 hc5)
    | (go_at_call 6; (with_reducible refine (pt_a _).mono ?_); rintro e w3 ⟨v3, rfl, ho, hb⟩; have HB23 := Aside0.mk hb; have HB3 := Aside0.mk (below_step HB2.out hb); clear hb ho)
    | (go_at_call 7; (with_reducible refine (rt_call_no A5 _ c5 4 (by omega) s HL.out _ (Kd.C_below HR5.out HB23.out) rfl HC5.out (Utf8Tabs_below HT.out HB3.out) HX.out).mono ?_); rintro e w4 ⟨rfl, hb⟩; have HB24 := Aside0.mk (below_step HB23.out hb); have HB4 := Aside0.mk (below_step HB3.out hb); have HV := Aside0.mk (conv_C w4 s HL.out); have HBV := Aside0.mk (bytes_below HB4.out HB4.out.size 5 s); have HBW := Aside0.mk (bytes_below HB24.out HB24.out.size 5 s); clear hb)
    | (go_at_call 8; (with_reducible refine (tx_call_no _ _ _ 4 (by omega) s HL.out _ HV.out (bytesOf_length s).symm (grown_ge _ _) HX.out).mono ?_); rintro e w5 ⟨rfl, hb⟩; have HB5 := Aside0.mk (below_step HBV.out hb); have hcv := Kd.C_string (P := Tryd.prog) (A := A5) (c := c5) Tryd.underlying24 Tryd.underlying5 Tryd.underlying9 (Kd.C_below HR5.out (below_step HBW.out hb)); rw [str_bytesOf] at hcv; clear hb kb))
  go_ret
  exact ⟨rfl, HB5.out⟩
set_option maxHeartbeats 4000000 in
set_option maxRecDepth 100000 in
theorem lawPT_j0_f (a0 : Int) (s : ByteArray) (w : World) (h0 : 0 ≤ a0 ∧ a0 ≤ 255) (hT : Lib.Utf8Tabs 0 1 w) (h2 : s.size ≤ 200) (hj : a0 % 4 = 0) (hw : wrOk 0 s = false) : Calls Tryd.prog 3 #[.int .u8 a0, .string s] w fun e w' => e = .returned (.bool true) ∧ Below w.heap.size w w' := by
  have HB0 := Aside0.mk (Below.refl w.heap.size w)
  have HT := Aside0.mk hT
  clear hT
  have t1 : decide ((2147483647 : Int) < (s.size : Int)) = false := decide_eq_false (by omega)
  have t1n : decide (2147483647 < s.size) = false := decide_eq_false (by omega)
  have t2 : decide ((200 : Int) < (s.size : Int)) = false := decide_eq_false (by omega)
  have t2n : decide (200 < s.size) = false := decide_eq_false (by omega)
  have HL := Aside0.mk h2
  have HW := Aside0.mk hw
  have hjn : (a0 % 4).toNat = 0 := by omega
  have kb := fun (W : World) => print_bytes (P := Tryd.prog) 9 24 5 Tryd.underlying9 Tryd.underlying24 Tryd.underlying5 s W
  clear h2 hw
  go_enter Tryd.func3, Tryd.ntmps3
  go_wp2_with (first
    | (go_at_call 5; (with_reducible refine (wr_call 0 (by omega) s HL.out false HW.out _).mono ?_); rintro e w1 ⟨rfl, hb⟩; have HB1 := Aside0.mk (below_step (below_alloc HB0.out _) hb); clear hb)
    | (go_at_call 6; (with_reducible refine (pt_no 0 s _ (by omega) HL.out HW.out).mono ?_); rintro e w2 ⟨rfl, hb⟩; have HB2 := Aside0.mk (below_step HB1.out hb); clear hb)
    | (go_at_call 6; (with_reducible refine (pt_a _).mono ?_); rintro e w3 ⟨v3, rfl, ho, hb⟩; have HB23 := Aside0.mk hb; have HB3 := Aside0.mk (below_step HB2.out hb); clear hb ho))
  go_ret
  exact ⟨rfl, HB3.out⟩
set_option maxHeartbeats 4000000 in
set_option maxRecDepth 100000 in
theorem lawPT_j1_f (a0 : Int) (s : ByteArray) (w : World) (h0 : 0 ≤ a0 ∧ a0 ≤ 255) (hT : Lib.Utf8Tabs 0 1 w) (h2 : s.size ≤ 200) (hj : a0 % 4 = 1) (hw : wrOk 1 s = false) : Calls Tryd.prog 3 #[.int .u8 a0, .string s] w fun e w' => e = .returned (.bool true) ∧ Below w.heap.size w w' := by
  have HB0 := Aside0.mk (Below.refl w.heap.size w)
  have HT := Aside0.mk hT
  clear hT
  have t1 : decide ((2147483647 : Int) < (s.size : Int)) = false := decide_eq_false (by omega)
  have t1n : decide (2147483647 < s.size) = false := decide_eq_false (by omega)
  have t2 : decide ((200 : Int) < (s.size : Int)) = false := decide_eq_false (by omega)
  have t2n : decide (200 < s.size) = false := decide_eq_false (by omega)
  have HL := Aside0.mk h2
  have HW := Aside0.mk hw
  have hjn : (a0 % 4).toNat = 1 := by omega
  have kb := fun (W : World) => print_bytes (P := Tryd.prog) 9 24 5 Tryd.underlying9 Tryd.underlying24 Tryd.underlying5 s W
  clear h2 hw
  go_enter Tryd.func3, Tryd.ntmps3
  go_wp2_with (first
    | (go_at_call 5; (with_reducible refine (wr_call 1 (by omega) s HL.out false HW.out _).mono ?_); rintro e w1 ⟨rfl, hb⟩; have HB1 := Aside0.mk (below_step (below_alloc HB0.out _) hb); clear hb)
    | (go_at_call 6; (with_reducible refine (pt_no 1 s _ (by omega) HL.out HW.out).mono ?_); rintro e w2 ⟨rfl, hb⟩; have HB2 := Aside0.mk (below_step HB1.out hb); clear hb)
    | (go_at_call 6; (with_reducible refine (pt_a _).mono ?_); rintro e w3 ⟨v3, rfl, ho, hb⟩; have HB23 := Aside0.mk hb; have HB3 := Aside0.mk (below_step HB2.out hb); clear hb ho))
  go_ret
  exact ⟨rfl, HB3.out⟩
set_option maxHeartbeats 4000000 in
set_option maxRecDepth 100000 in
theorem lawPT_j2_f (a0 : Int) (s : ByteArray) (w : World) (h0 : 0 ≤ a0 ∧ a0 ≤ 255) (hT : Lib.Utf8Tabs 0 1 w) (h2 : s.size ≤ 200) (hj : a0 % 4 = 2) (hw : wrOk 2 s = false) : Calls Tryd.prog 3 #[.int .u8 a0, .string s] w fun e w' => e = .returned (.bool true) ∧ Below w.heap.size w w' := by
  have HB0 := Aside0.mk (Below.refl w.heap.size w)
  have HT := Aside0.mk hT
  clear hT
  have t1 : decide ((2147483647 : Int) < (s.size : Int)) = false := decide_eq_false (by omega)
  have t1n : decide (2147483647 < s.size) = false := decide_eq_false (by omega)
  have t2 : decide ((200 : Int) < (s.size : Int)) = false := decide_eq_false (by omega)
  have t2n : decide (200 < s.size) = false := decide_eq_false (by omega)
  have HL := Aside0.mk h2
  have HW := Aside0.mk hw
  have hjn : (a0 % 4).toNat = 2 := by omega
  have kb := fun (W : World) => print_bytes (P := Tryd.prog) 9 24 5 Tryd.underlying9 Tryd.underlying24 Tryd.underlying5 s W
  clear h2 hw
  go_enter Tryd.func3, Tryd.ntmps3
  go_wp2_with (first
    | (go_at_call 5; (with_reducible refine (wr_call 2 (by omega) s HL.out false HW.out _).mono ?_); rintro e w1 ⟨rfl, hb⟩; have HB1 := Aside0.mk (below_step (below_alloc HB0.out _) hb); clear hb)
    | (go_at_call 6; (with_reducible refine (pt_no 2 s _ (by omega) HL.out HW.out).mono ?_); rintro e w2 ⟨rfl, hb⟩; have HB2 := Aside0.mk (below_step HB1.out hb); clear hb)
    | (go_at_call 6; (with_reducible refine (pt_a _).mono ?_); rintro e w3 ⟨v3, rfl, ho, hb⟩; have HB23 := Aside0.mk hb; have HB3 := Aside0.mk (below_step HB2.out hb); clear hb ho))
  go_ret
  exact ⟨rfl, HB3.out⟩
theorem lawPT (a0 : Int) (s : ByteArray) (w : World) (h0 : 0 ≤ a0 ∧ a0 ≤ 255) (hT : Lib.Utf8Tabs 0 1 w) : Calls Tryd.prog 3 #[.int .u8 a0, .string s] w fun e w' => e = .returned (.bool true) ∧ Below w.heap.size w w' := by
  by_cases h1 : 2147483647 < s.size
  · exact lawPT_e1 a0 s w h0 hT h1
  by_cases h2 : 200 < s.size
  · exact lawPT_e2 a0 s w h0 hT (by omega) h2
  rcases (by omega : a0 % 4 = 0 ∨ a0 % 4 = 1 ∨ a0 % 4 = 2 ∨ a0 % 4 = 3) with hj | hj | hj | hj
  · cases hw : wrOk 0 s with
    | false => exact lawPT_j0_f a0 s w h0 hT (by omega) hj hw
    | true =>
      cases ht : txOk 0 (bytesOf s) with
      | false => exact lawPT_j0_tf a0 s w h0 hT (by omega) hj hw ht
      | true => exact lawPT_j0_tt a0 s w h0 hT (by omega) hj hw ht
  · cases hw : wrOk 1 s with
    | false => exact lawPT_j1_f a0 s w h0 hT (by omega) hj hw
    | true =>
      cases ht : txOk 1 (bytesOf s) with
      | false => exact lawPT_j1_tf a0 s w h0 hT (by omega) hj hw ht
      | true => exact lawPT_j1_tt a0 s w h0 hT (by omega) hj hw ht
  · cases hw : wrOk 2 s with
    | false => exact lawPT_j2_f a0 s w h0 hT (by omega) hj hw
    | true =>
      cases ht : txOk 2 (bytesOf s) with
      | false => exact lawPT_j2_tf a0 s w h0 hT (by omega) hj hw ht
      | true => exact lawPT_j2_tt a0 s w h0 hT (by omega) hj hw ht
  · cases hw : wrOk 4 s with
    | false => cases hw
    | true =>
      cases ht : txOk 4 (bytesOf s) with
      | false => exact lawPT_j3_tf a0 s w h0 hT (by omega) hj hw ht
      | true => exact lawPT_j3_tt a0 s w h0 hT (by omega) hj hw ht
end Go.Proofs.YtmiemfgcggkbnaaDoor.QT
