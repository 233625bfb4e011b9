/- ZZPutText and impl.PutText: the string's bytes, or an error. -/
import Derived.Test.YtmiemfgcggkbnaaDoorVh
import Derived.Test.YtmiemfgcggkbnaaDoorQTx2
import Derived.Lib.LazyBuf
import Derived.Lib.ValidAsc
import Derived.Lib.ValidLaws
import Derived.Lib.EndianBits
import Derived.Shelf.Unicode.DecodeSlow
import Derived.Laws.BitsAllLaws
namespace Go.Proofs.YtmiemfgcggkbnaaDoor.QT
open Go.BigFrame
open Go.RowKit Go.Proofs.YtmiemfgcggkbnaaDoorW.PrintWords Go.Proofs.YtmiemfgcggkbnaaDoorW.PrintLast Go.Proofs.YtmiemfgcggkbnaaDoorW.PrintMore
set_option linter.unusedVariables false
set_option linter.unusedSimpArgs false
def ZPGood (w : World) (s : ByteArray) (e : Ending) (w' : World) : Prop := ∃ v : Value, e = .returned (.tuple #[v, .nilIface]) ∧ (Kd.int .u8).R 5 w' w.heap.size (fun _ => True) v (bytesOf s) ∧ Below w.heap.size w w'
def ZPBad (w : World) (e : Ending) (w' : World) : Prop := ∃ T x, e = .returned (.tuple #[.slice none 0 0, .iface T x]) ∧ Below w.heap.size w w'
def PTGood (w : World) (s : ByteArray) (e : Ending) (w' : World) : Prop := ∃ v : Value, e = .returned (.tuple #[v, .bool true]) ∧ (Kd.int .u8).R 5 w' w.heap.size (fun _ => True) v (bytesOf s) ∧ Below w.heap.size w w'
def PTBad (w : World) (e : Ending) (w' : World) : Prop := e = .returned (.tuple #[.slice none 0 0, .bool false]) ∧ Below w.heap.size w w'
def wrOk (k : Int) (s : ByteArray) : Bool := if k = 0 then (bytesOf s).all (fun c => numB c) else if k = 1 then (bytesOf s).all (fun c => prQ c) else if k = 2 then (bytesOf s).all (fun c => ia5B c) else true
theorem mku (s : ByteArray) (w : World) : Calls Tryd.prog 19 #[.string s] w fun e w' => e = .returned (.iface 55 (.string s)) ∧ Below w.heap.size w w' := by
  go_enter Tryd.func19, Tryd.ntmps19
  go_wp2
  go_ret
  exact ⟨rfl, Below.refl _ _⟩
theorem R_base {w w1 w' : World} {v : Value} {xs : List Int} (hb : Below w.heap.size w w1) (ho : (Kd.int .u8).R 5 w' w1.heap.size (fun _ => True) v xs) : (Kd.int .u8).R 5 w' w.heap.size (fun _ => True) v xs := Kd.R_lower ho hb.size
set_option maxHeartbeats 1000000 in
set_option maxRecDepth 100000 in
theorem zp_0_yes (s : ByteArray) (w : World) (hs : s.size ≤ 10000) (hp : Calls Tryd.prog 16 #[.string s] w (MkGood w s)) : Calls Tryd.prog 10 #[.int .i64 0, .string s] w (ZPGood w s) := by
  have HS := Aside0.mk hs
  have HP := Aside0.mk hp
  clear hp
  go_enter Tryd.func10, Tryd.ntmps10
  go_wp2_with (first | (go_at_call 16; (with_reducible refine HP.out.mono ?_); rintro e w2 ⟨rfl, hb⟩; have HB2 := Aside0.mk hb; clear hb) | (go_at_call 21; (with_reducible refine (zzEnc s _ HS.out).mono ?_); rintro e w3 ⟨v1, rfl, ho, hb⟩; have HO3 := Aside0.mk (R_base HB2.out ho); have HB3 := Aside0.mk (below_step HB2.out hb); clear ho hb))
  go_ret2
  exact ⟨_, rfl, HO3.out, HB3.out⟩
set_option maxHeartbeats 1000000 in
set_option maxRecDepth 100000 in
theorem zp_0_no (s : ByteArray) (w : World) (hs : s.size ≤ 10000) (hp : Calls Tryd.prog 16 #[.string s] w (MkBad w)) : Calls Tryd.prog 10 #[.int .i64 0, .string s] w (ZPBad w) := by
  have HS := Aside0.mk hs
  have HP := Aside0.mk hp
  clear hp
  go_enter Tryd.func10, Tryd.ntmps10
  go_wp2_with (first | (go_at_call 16; (with_reducible refine HP.out.mono ?_); rintro e w2 ⟨T_, x_, rfl, hb⟩; have HB2 := Aside0.mk hb; clear hb))
  go_ret2
  exact ⟨_, _, rfl, HB2.out⟩
set_option maxHeartbeats 1000000 in
set_option maxRecDepth 100000 in
theorem zp_1_yes (s : ByteArray) (w : World) (hs : s.size ≤ 10000) (hp : Calls Tryd.prog 17 #[.string s] w (MkGood w s)) : Calls Tryd.prog 10 #[.int .i64 1, .string s] w (ZPGood w s) := by
  have HS := Aside0.mk hs
  have HP := Aside0.mk hp
  clear hp
  go_enter Tryd.func10, Tryd.ntmps10
  go_wp2_with (first | (go_at_call 17; (with_reducible refine HP.out.mono ?_); rintro e w2 ⟨rfl, hb⟩; have HB2 := Aside0.mk hb; clear hb) | (go_at_call 21; (with_reducible refine (zzEnc s _ HS.out).mono ?_); rintro e w3 ⟨v1, rfl, ho, hb⟩; have HO3 := Aside0.mk (R_base HB2.out ho); have HB3 := Aside0.mk (below_step HB2.out hb); clear ho hb))
  go_ret2
  exact ⟨_, rfl, HO3.out, HB3.out⟩
set_option maxHeartbeats 1000000 in
set_option maxRecDepth 100000 in
theorem zp_1_no (s : ByteArray) (w : World) (hs : s.size ≤ 10000) (hp : Calls Tryd.prog 17 #[.string s] w (MkBad w)) : Calls Tryd.prog 10 #[.int .i64 1, .string s] w (ZPBad w) := by
  have HS := Aside0.mk hs
  have HP := Aside0.mk hp
  clear hp
  go_enter Tryd.func10, Tryd.ntmps10
  go_wp2_with (first | (go_at_call 17; (with_reducible refine HP.out.mono ?_); rintro e w2 ⟨T_, x_, rfl, hb⟩; have HB2 := Aside0.mk hb; clear hb))
  go_ret2
  exact ⟨_, _, rfl, HB2.out⟩
set_option maxHeartbeats 1000000 in
set_option maxRecDepth 100000 in
theorem zp_2_yes (s : ByteArray) (w : World) (hs : s.size ≤ 10000) (hp : Calls Tryd.prog 18 #[.string s] w (MkGood w s)) : Calls Tryd.prog 10 #[.int .i64 2, .string s] w (ZPGood w s) := by
  have HS := Aside0.mk hs
  have HP := Aside0.mk hp
  clear hp
  go_enter Tryd.func10, Tryd.ntmps10
  go_wp2_with (first | (go_at_call 18; (with_reducible refine HP.out.mono ?_); rintro e w2 ⟨rfl, hb⟩; have HB2 := Aside0.mk hb; clear hb) | (go_at_call 21; (with_reducible refine (zzEnc s _ HS.out).mono ?_); rintro e w3 ⟨v1, rfl, ho, hb⟩; have HO3 := Aside0.mk (R_base HB2.out ho); have HB3 := Aside0.mk (below_step HB2.out hb); clear ho hb))
  go_ret2
  exact ⟨_, rfl, HO3.out, HB3.out⟩
set_option maxHeartbeats 1000000 in
set_option maxRecDepth 100000 in
theorem zp_2_no (s : ByteArray) (w : World) (hs : s.size ≤ 10000) (hp : Calls Tryd.prog 18 #[.string s] w (MkBad w)) : Calls Tryd.prog 10 #[.int .i64 2, .string s] w (ZPBad w) := by
  have HS := Aside0.mk hs
  have HP := Aside0.mk hp
  clear hp
  go_enter Tryd.func10, Tryd.ntmps10
  go_wp2_with (first | (go_at_call 18; (with_reducible refine HP.out.mono ?_); rintro e w2 ⟨T_, x_, rfl, hb⟩; have HB2 := Aside0.mk hb; clear hb))
  go_ret2
  exact ⟨_, _, rfl, HB2.out⟩
set_option maxHeartbeats 1000000 in
set_option maxRecDepth 100000 in
theorem zp_4_yes (s : ByteArray) (w : World) (hs : s.size ≤ 10000)  : Calls Tryd.prog 10 #[.int .i64 4, .string s] w (ZPGood w s) := by
  have HS := Aside0.mk hs
  go_enter Tryd.func10, Tryd.ntmps10
  go_wp2_with (first | (go_at_call 19; (with_reducible refine (mku s _).mono ?_); rintro e w2 ⟨rfl, hb⟩; have HB2 := Aside0.mk hb; clear hb) | (go_at_call 21; (with_reducible refine (zzEnc s _ HS.out).mono ?_); rintro e w3 ⟨v1, rfl, ho, hb⟩; have HO3 := Aside0.mk (R_base HB2.out ho); have HB3 := Aside0.mk (below_step HB2.out hb); clear ho hb))
  go_ret2
  exact ⟨_, rfl, HO3.out, HB3.out⟩
theorem zp_yes (k : Int) (s : ByteArray) (w : World) (hk : k = 0 ∨ k = 1 ∨ k = 2 ∨ k = 4) (hs : s.size ≤ 10000) (h : wrOk k s = true) : Calls Tryd.prog 10 #[.int .i64 k, .string s] w (ZPGood w s) := by
  rcases hk with rfl | rfl | rfl | rfl
  · exact zp_0_yes s w hs (mkn_yes s w hs h)
  · exact zp_1_yes s w hs (mkp_yes s w hs h)
  · exact zp_2_yes s w hs (mki_yes s w hs h)
  · exact zp_4_yes s w hs
set_option maxHeartbeats 1000000 in
set_option maxRecDepth 100000 in
theorem pt_yes (k : Int) (s : ByteArray) (w : World) (hk : k = 0 ∨ k = 1 ∨ k = 2 ∨ k = 4) (hs : s.size ≤ 200) (h : wrOk k s = true) : Calls Tryd.prog 6 #[.int .i64 k, .string s] w (PTGood w s) := by
  have HS := Aside0.mk hs
  have HP := Aside0.mk (zp_yes k s w hk (by omega) h)
  have t1 : decide ((s.size : Int) > 10000) = false := decide_eq_false (by omega)
  have t2 : decide ((10000 : Int) < (s.size : Int)) = false := decide_eq_false (by omega)
  have t3 : decide (10000 < s.size) = false := decide_eq_false (by omega)
  clear hk h
  go_enter Tryd.func6, Tryd.ntmps6
  go_wp2_with (go_at_call 10; (with_reducible refine HP.out.mono ?_); rintro e w2 ⟨v1, rfl, ho, hb⟩; have HO2 := Aside0.mk ho; have HB2 := Aside0.mk hb; clear ho hb)
  go_ret2
  exact ⟨_, rfl, HO2.out, HB2.out⟩
theorem zp_no (k : Int) (s : ByteArray) (w : World) (hk : k = 0 ∨ k = 1 ∨ k = 2 ∨ k = 4) (hs : s.size ≤ 10000) (h : wrOk k s = false) : Calls Tryd.prog 10 #[.int .i64 k, .string s] w (ZPBad w) := by
  rcases hk with rfl | rfl | rfl | rfl
  · exact zp_0_no s w hs (mkn_no s w hs h)
  · exact zp_1_no s w hs (mkp_no s w hs h)
  · exact zp_2_no s w hs (mki_no s w hs h)
  · cases h
set_option maxHeartbeats 1000000 in
set_option maxRecDepth 100000 in
theorem pt_no (k : Int) (s : ByteArray) (w : World) (hk : k = 0 ∨ k = 1 ∨ k = 2 ∨ k = 4) (hs : s.size ≤ 200) (h : wrOk k s = false) : Calls Tryd.prog 6 #[.int .i64 k, .string s] w (PTBad w) := by
  have HS := Aside0.mk hs
  have HP := Aside0.mk (zp_no k s w hk (by omega) h)
  have t1 : decide ((s.size : Int) > 10000) = false := decide_eq_false (by omega)
  have t2 : decide ((10000 : Int) < (s.size : Int)) = false := decide_eq_false (by omega)
  have t3 : decide (10000 < s.size) = false := decide_eq_false (by omega)
  clear hk h
  go_enter Tryd.func6, Tryd.ntmps6
  go_wp2_with (go_at_call 10; (with_reducible refine HP.out.mono ?_); rintro e w2 ⟨T_, x_, rfl, hb⟩; have HB2 := Aside0.mk hb; clear hb)
  go_ret2
  exact ⟨rfl, HB2.out⟩
end Go.Proofs.YtmiemfgcggkbnaaDoor.QT
