/- isPrintable, walked: the next letters. -/
import Derived.Test.YtmiemfgcggkbnaaDoorVa
import Derived.Lib.SlBytesConst
import Derived.Lib.ValidAsc
import Derived.Lib.ValidLaws
import Derived.Lib.EndianBits
import Derived.Shelf.Unicode.DecodeSlow
import Derived.Laws.BitsAllLaws
namespace Go.Proofs.YtmiemfgcggkbnaaDoor.QT
open Go.BigFrame
open Go.RowKit Go.Proofs.YtmiemfgcggkbnaaDoorW.PrintWords Go.Proofs.YtmiemfgcggkbnaaDoorW.PrintLast Go.Proofs.YtmiemfgcggkbnaaDoorW.PrintMore
set_option linter.unusedVariables false
set_option linter.unusedSimpArgs false
set_option maxHeartbeats 16000000 in
set_option maxRecDepth 100000 in
theorem pr_6_true (b : Int) (w : World) (h1 : 43 ≤ b) (h2 : b ≤ 47) : Calls Tryd.prog 29 #[.int .u8 b, .bool true, .bool true] w fun e w' => e = .returned (.bool true) ∧ w' = w := by
  have q97 : decide (97 ≤ b) = false := decide_eq_false (by omega)
  have q65 : decide (65 ≤ b) = false := decide_eq_false (by omega)
  have q48 : decide (48 ≤ b) = false := decide_eq_false (by omega)
  have q39 : decide (39 ≤ b) = true := decide_eq_true (by omega)
  have q43 : decide (43 ≤ b) = true := decide_eq_true (by omega)
  have q122 : decide (b ≤ 122) = true := decide_eq_true (by omega)
  have q90 : decide (b ≤ 90) = true := decide_eq_true (by omega)
  have q57 : decide (b ≤ 57) = true := decide_eq_true (by omega)
  have q41 : decide (b ≤ 41) = false := decide_eq_false (by omega)
  have q47 : decide (b ≤ 47) = true := decide_eq_true (by omega)
  have q32 : (b == 32) = false := beq_eq_false_iff_ne.mpr (by omega)
  have q58 : (b == 58) = false := beq_eq_false_iff_ne.mpr (by omega)
  have q61 : (b == 61) = false := beq_eq_false_iff_ne.mpr (by omega)
  have q63 : (b == 63) = false := beq_eq_false_iff_ne.mpr (by omega)
  have q42 : (b == 42) = false := beq_eq_false_iff_ne.mpr (by omega)
  have q38 : (b == 38) = false := beq_eq_false_iff_ne.mpr (by omega)
  clear h1 h2
  go_enter Tryd.func29, Tryd.ntmps29
  go_wp2
  all_goals (go_ret; exact ⟨rfl, rfl⟩)
set_option maxHeartbeats 16000000 in
set_option maxRecDepth 100000 in
theorem pr_6_false (b : Int) (w : World) (h1 : 43 ≤ b) (h2 : b ≤ 47) : Calls Tryd.prog 29 #[.int .u8 b, .bool true, .bool false] w fun e w' => e = .returned (.bool true) ∧ w' = w := by
  have q97 : decide (97 ≤ b) = false := decide_eq_false (by omega)
  have q65 : decide (65 ≤ b) = false := decide_eq_false (by omega)
  have q48 : decide (48 ≤ b) = false := decide_eq_false (by omega)
  have q39 : decide (39 ≤ b) = true := decide_eq_true (by omega)
  have q43 : decide (43 ≤ b) = true := decide_eq_true (by omega)
  have q122 : decide (b ≤ 122) = true := decide_eq_true (by omega)
  have q90 : decide (b ≤ 90) = true := decide_eq_true (by omega)
  have q57 : decide (b ≤ 57) = true := decide_eq_true (by omega)
  have q41 : decide (b ≤ 41) = false := decide_eq_false (by omega)
  have q47 : decide (b ≤ 47) = true := decide_eq_true (by omega)
  have q32 : (b == 32) = false := beq_eq_false_iff_ne.mpr (by omega)
  have q58 : (b == 58) = false := beq_eq_false_iff_ne.mpr (by omega)
  have q61 : (b == 61) = false := beq_eq_false_iff_ne.mpr (by omega)
  have q63 : (b == 63) = false := beq_eq_false_iff_ne.mpr (by omega)
  have q42 : (b == 42) = false := beq_eq_false_iff_ne.mpr (by omega)
  have q38 : (b == 38) = false := beq_eq_false_iff_ne.mpr (by omega)
  clear h1 h2
  go_enter Tryd.func29, Tryd.ntmps29
  go_wp2
  all_goals (go_ret; exact ⟨rfl, rfl⟩)
set_option maxHeartbeats 16000000 in
set_option maxRecDepth 100000 in
theorem pr_7_true (b : Int) (w : World) (h1 : 48 ≤ b) (h2 : b ≤ 57) : Calls Tryd.prog 29 #[.int .u8 b, .bool true, .bool true] w fun e w' => e = .returned (.bool true) ∧ w' = w := by
  have q97 : decide (97 ≤ b) = false := decide_eq_false (by omega)
  have q65 : decide (65 ≤ b) = false := decide_eq_false (by omega)
  have q48 : decide (48 ≤ b) = true := decide_eq_true (by omega)
  have q39 : decide (39 ≤ b) = true := decide_eq_true (by omega)
  have q43 : decide (43 ≤ b) = true := decide_eq_true (by omega)
  have q122 : decide (b ≤ 122) = true := decide_eq_true (by omega)
  have q90 : decide (b ≤ 90) = true := decide_eq_true (by omega)
  have q57 : decide (b ≤ 57) = true := decide_eq_true (by omega)
  have q41 : decide (b ≤ 41) = false := decide_eq_false (by omega)
  have q47 : decide (b ≤ 47) = false := decide_eq_false (by omega)
  have q32 : (b == 32) = false := beq_eq_false_iff_ne.mpr (by omega)
  have q58 : (b == 58) = false := beq_eq_false_iff_ne.mpr (by omega)
  have q61 : (b == 61) = false := beq_eq_false_iff_ne.mpr (by omega)
  have q63 : (b == 63) = false := beq_eq_false_iff_ne.mpr (by omega)
  have q42 : (b == 42) = false := beq_eq_false_iff_ne.mpr (by omega)
  have q38 : (b == 38) = false := beq_eq_false_iff_ne.mpr (by omega)
  clear h1 h2
  go_enter Tryd.func29, Tryd.ntmps29
  go_wp2
  all_goals (go_ret; exact ⟨rfl, rfl⟩)
set_option maxHeartbeats 16000000 in
set_option maxRecDepth 100000 in
theorem pr_7_false (b : Int) (w : World) (h1 : 48 ≤ b) (h2 : b ≤ 57) : Calls Tryd.prog 29 #[.int .u8 b, .bool true, .bool false] w fun e w' => e = .returned (.bool true) ∧ w' = w := by
  have q97 : decide (97 ≤ b) = false := decide_eq_false (by omega)
  have q65 : decide (65 ≤ b) = false := decide_eq_false (by omega)
  have q48 : decide (48 ≤ b) = true := decide_eq_true (by omega)
  have q39 : decide (39 ≤ b) = true := decide_eq_true (by omega)
  have q43 : decide (43 ≤ b) = true := decide_eq_true (by omega)
  have q122 : decide (b ≤ 122) = true := decide_eq_true (by omega)
  have q90 : decide (b ≤ 90) = true := decide_eq_true (by omega)
  have q57 : decide (b ≤ 57) = true := decide_eq_true (by omega)
  have q41 : decide (b ≤ 41) = false := decide_eq_false (by omega)
  have q47 : decide (b ≤ 47) = false := decide_eq_false (by omega)
  have q32 : (b == 32) = false := beq_eq_false_iff_ne.mpr (by omega)
  have q58 : (b == 58) = false := beq_eq_false_iff_ne.mpr (by omega)
  have q61 : (b == 61) = false := beq_eq_false_iff_ne.mpr (by omega)
  have q63 : (b == 63) = false := beq_eq_false_iff_ne.mpr (by omega)
  have q42 : (b == 42) = false := beq_eq_false_iff_ne.mpr (by omega)
  have q38 : (b == 38) = false := beq_eq_false_iff_ne.mpr (by omega)
  clear h1 h2
  go_enter Tryd.func29, Tryd.ntmps29
  go_wp2
  all_goals (go_ret; exact ⟨rfl, rfl⟩)
set_option maxHeartbeats 16000000 in
set_option maxRecDepth 100000 in
theorem pr_8_true (b : Int) (w : World) (h1 : 58 ≤ b) (h2 : b ≤ 58) : Calls Tryd.prog 29 #[.int .u8 b, .bool true, .bool true] w fun e w' => e = .returned (.bool true) ∧ w' = w := by
  have q97 : decide (97 ≤ b) = false := decide_eq_false (by omega)
  have q65 : decide (65 ≤ b) = false := decide_eq_false (by omega)
  have q48 : decide (48 ≤ b) = true := decide_eq_true (by omega)
  have q39 : decide (39 ≤ b) = true := decide_eq_true (by omega)
  have q43 : decide (43 ≤ b) = true := decide_eq_true (by omega)
  have q122 : decide (b ≤ 122) = true := decide_eq_true (by omega)
  have q90 : decide (b ≤ 90) = true := decide_eq_true (by omega)
  have q57 : decide (b ≤ 57) = false := decide_eq_false (by omega)
  have q41 : decide (b ≤ 41) = false := decide_eq_false (by omega)
  have q47 : decide (b ≤ 47) = false := decide_eq_false (by omega)
  have q32 : (b == 32) = false := beq_eq_false_iff_ne.mpr (by omega)
  have q58 : (b == 58) = true := beq_iff_eq.mpr (by omega)
  have q61 : (b == 61) = false := beq_eq_false_iff_ne.mpr (by omega)
  have q63 : (b == 63) = false := beq_eq_false_iff_ne.mpr (by omega)
  have q42 : (b == 42) = false := beq_eq_false_iff_ne.mpr (by omega)
  have q38 : (b == 38) = false := beq_eq_false_iff_ne.mpr (by omega)
  clear h1 h2
  go_enter Tryd.func29, Tryd.ntmps29
  go_wp2
  all_goals (go_ret; exact ⟨rfl, rfl⟩)
set_option maxHeartbeats 16000000 in
set_option maxRecDepth 100000 in
theorem pr_8_false (b : Int) (w : World) (h1 : 58 ≤ b) (h2 : b ≤ 58) : Calls Tryd.prog 29 #[.int .u8 b, .bool true, .bool false] w fun e w' => e = .returned (.bool true) ∧ w' = w := by
  have q97 : decide (97 ≤ b) = false := decide_eq_false (by omega)
  have q65 : decide (65 ≤ b) = false := decide_eq_false (by omega)
  have q48 : decide (48 ≤ b) = true := decide_eq_true (by omega)
  have q39 : decide (39 ≤ b) = true := decide_eq_true (by omega)
  have q43 : decide (43 ≤ b) = true := decide_eq_true (by omega)
  have q122 : decide (b ≤ 122) = true := decide_eq_true (by omega)
  have q90 : decide (b ≤ 90) = true := decide_eq_true (by omega)
  have q57 : decide (b ≤ 57) = false := decide_eq_false (by omega)
  have q41 : decide (b ≤ 41) = false := decide_eq_false (by omega)
  have q47 : decide (b ≤ 47) = false := decide_eq_false (by omega)
  have q32 : (b == 32) = false := beq_eq_false_iff_ne.mpr (by omega)
  have q58 : (b == 58) = true := beq_iff_eq.mpr (by omega)
  have q61 : (b == 61) = false := beq_eq_false_iff_ne.mpr (by omega)
  have q63 : (b == 63) = false := beq_eq_false_iff_ne.mpr (by omega)
  have q42 : (b == 42) = false := beq_eq_false_iff_ne.mpr (by omega)
  have q38 : (b == 38) = false := beq_eq_false_iff_ne.mpr (by omega)
  clear h1 h2
  go_enter Tryd.func29, Tryd.ntmps29
  go_wp2
  all_goals (go_ret; exact ⟨rfl, rfl⟩)
set_option maxHeartbeats 16000000 in
set_option maxRecDepth 100000 in
theorem pr_9_true (b : Int) (w : World) (h1 : 59 ≤ b) (h2 : b ≤ 60) : Calls Tryd.prog 29 #[.int .u8 b, .bool true, .bool true] w fun e w' => e = .returned (.bool false) ∧ w' = w := by
  have q97 : decide (97 ≤ b) = false := decide_eq_false (by omega)
  have q65 : decide (65 ≤ b) = false := decide_eq_false (by omega)
  have q48 : decide (48 ≤ b) = true := decide_eq_true (by omega)
  have q39 : decide (39 ≤ b) = true := decide_eq_true (by omega)
  have q43 : decide (43 ≤ b) = true := decide_eq_true (by omega)
  have q122 : decide (b ≤ 122) = true := decide_eq_true (by omega)
  have q90 : decide (b ≤ 90) = true := decide_eq_true (by omega)
  have q57 : decide (b ≤ 57) = false := decide_eq_false (by omega)
  have q41 : decide (b ≤ 41) = false := decide_eq_false (by omega)
  have q47 : decide (b ≤ 47) = false := decide_eq_false (by omega)
  have q32 : (b == 32) = false := beq_eq_false_iff_ne.mpr (by omega)
  have q58 : (b == 58) = false := beq_eq_false_iff_ne.mpr (by omega)
  have q61 : (b == 61) = false := beq_eq_false_iff_ne.mpr (by omega)
  have q63 : (b == 63) = false := beq_eq_false_iff_ne.mpr (by omega)
  have q42 : (b == 42) = false := beq_eq_false_iff_ne.mpr (by omega)
  have q38 : (b == 38) = false := beq_eq_false_iff_ne.mpr (by omega)
  clear h1 h2
  go_enter Tryd.func29, Tryd.ntmps29
  go_wp2
  all_goals (go_ret; exact ⟨rfl, rfl⟩)
set_option maxHeartbeats 16000000 in
set_option maxRecDepth 100000 in
theorem pr_9_false (b : Int) (w : World) (h1 : 59 ≤ b) (h2 : b ≤ 60) : Calls Tryd.prog 29 #[.int .u8 b, .bool true, .bool false] w fun e w' => e = .returned (.bool false) ∧ w' = w := by
  have q97 : decide (97 ≤ b) = false := decide_eq_false (by omega)
  have q65 : decide (65 ≤ b) = false := decide_eq_false (by omega)
  have q48 : decide (48 ≤ b) = true := decide_eq_true (by omega)
  have q39 : decide (39 ≤ b) = true := decide_eq_true (by omega)
  have q43 : decide (43 ≤ b) = true := decide_eq_true (by omega)
  have q122 : decide (b ≤ 122) = true := decide_eq_true (by omega)
  have q90 : decide (b ≤ 90) = true := decide_eq_true (by omega)
  have q57 : decide (b ≤ 57) = false := decide_eq_false (by omega)
  have q41 : decide (b ≤ 41) = false := decide_eq_false (by omega)
  have q47 : decide (b ≤ 47) = false := decide_eq_false (by omega)
  have q32 : (b == 32) = false := beq_eq_false_iff_ne.mpr (by omega)
  have q58 : (b == 58) = false := beq_eq_false_iff_ne.mpr (by omega)
  have q61 : (b == 61) = false := beq_eq_false_iff_ne.mpr (by omega)
  have q63 : (b == 63) = false := beq_eq_false_iff_ne.mpr (by omega)
  have q42 : (b == 42) = false := beq_eq_false_iff_ne.mpr (by omega)
  have q38 : (b == 38) = false := beq_eq_false_iff_ne.mpr (by omega)
  clear h1 h2
  go_enter Tryd.func29, Tryd.ntmps29
  go_wp2
  all_goals (go_ret; exact ⟨rfl, rfl⟩)
set_option maxHeartbeats 16000000 in
set_option maxRecDepth 100000 in
theorem pr_10_true (b : Int) (w : World) (h1 : 61 ≤ b) (h2 : b ≤ 61) : Calls Tryd.prog 29 #[.int .u8 b, .bool true, .bool true] w fun e w' => e = .returned (.bool true) ∧ w' = w := by
  have q97 : decide (97 ≤ b) = false := decide_eq_false (by omega)
  have q65 : decide (65 ≤ b) = false := decide_eq_false (by omega)
  have q48 : decide (48 ≤ b) = true := decide_eq_true (by omega)
  have q39 : decide (39 ≤ b) = true := decide_eq_true (by omega)
  have q43 : decide (43 ≤ b) = true := decide_eq_true (by omega)
  have q122 : decide (b ≤ 122) = true := decide_eq_true (by omega)
  have q90 : decide (b ≤ 90) = true := decide_eq_true (by omega)
  have q57 : decide (b ≤ 57) = false := decide_eq_false (by omega)
  have q41 : decide (b ≤ 41) = false := decide_eq_false (by omega)
  have q47 : decide (b ≤ 47) = false := decide_eq_false (by omega)
  have q32 : (b == 32) = false := beq_eq_false_iff_ne.mpr (by omega)
  have q58 : (b == 58) = false := beq_eq_false_iff_ne.mpr (by omega)
  have q61 : (b == 61) = true := beq_iff_eq.mpr (by omega)
  have q63 : (b == 63) = false := beq_eq_false_iff_ne.mpr (by omega)
  have q42 : (b == 42) = false := beq_eq_false_iff_ne.mpr (by omega)
  have q38 : (b == 38) = false := beq_eq_false_iff_ne.mpr (by omega)
  clear h1 h2
  go_enter Tryd.func29, Tryd.ntmps29
  go_wp2
  all_goals (go_ret; exact ⟨rfl, rfl⟩)
set_option maxHeartbeats 16000000 in
set_option maxRecDepth 100000 in
theorem pr_10_false (b : Int) (w : World) (h1 : 61 ≤ b) (h2 : b ≤ 61) : Calls Tryd.prog 29 #[.int .u8 b, .bool true, .bool false] w fun e w' => e = .returned (.bool true) ∧ w' = w := by
  have q97 : decide (97 ≤ b) = false := decide_eq_false (by omega)
  have q65 : decide (65 ≤ b) = false := decide_eq_false (by omega)
  have q48 : decide (48 ≤ b) = true := decide_eq_true (by omega)
  have q39 : decide (39 ≤ b) = true := decide_eq_true (by omega)
  have q43 : decide (43 ≤ b) = true := decide_eq_true (by omega)
  have q122 : decide (b ≤ 122) = true := decide_eq_true (by omega)
  have q90 : decide (b ≤ 90) = true := decide_eq_true (by omega)
  have q57 : decide (b ≤ 57) = false := decide_eq_false (by omega)
  have q41 : decide (b ≤ 41) = false := decide_eq_false (by omega)
  have q47 : decide (b ≤ 47) = false := decide_eq_false (by omega)
  have q32 : (b == 32) = false := beq_eq_false_iff_ne.mpr (by omega)
  have q58 : (b == 58) = false := beq_eq_false_iff_ne.mpr (by omega)
  have q61 : (b == 61) = true := beq_iff_eq.mpr (by omega)
  have q63 : (b == 63) = false := beq_eq_false_iff_ne.mpr (by omega)
  have q42 : (b == 42) = false := beq_eq_false_iff_ne.mpr (by omega)
  have q38 : (b == 38) = false := beq_eq_false_iff_ne.mpr (by omega)
  clear h1 h2
  go_enter Tryd.func29, Tryd.ntmps29
  go_wp2
  all_goals (go_ret; exact ⟨rfl, rfl⟩)
set_option maxHeartbeats 16000000 in
set_option maxRecDepth 100000 in
theorem pr_11_true (b : Int) (w : World) (h1 : 62 ≤ b) (h2 : b ≤ 62) : Calls Tryd.prog 29 #[.int .u8 b, .bool true, .bool true] w fun e w' => e = .returned (.bool false) ∧ w' = w := by
  have q97 : decide (97 ≤ b) = false := decide_eq_false (by omega)
  have q65 : decide (65 ≤ b) = false := decide_eq_false (by omega)
  have q48 : decide (48 ≤ b) = true := decide_eq_true (by omega)
  have q39 : decide (39 ≤ b) = true := decide_eq_true (by omega)
  have q43 : decide (43 ≤ b) = true := decide_eq_true (by omega)
  have q122 : decide (b ≤ 122) = true := decide_eq_true (by omega)
  have q90 : decide (b ≤ 90) = true := decide_eq_true (by omega)
  have q57 : decide (b ≤ 57) = false := decide_eq_false (by omega)
  have q41 : decide (b ≤ 41) = false := decide_eq_false (by omega)
  have q47 : decide (b ≤ 47) = false := decide_eq_false (by omega)
  have q32 : (b == 32) = false := beq_eq_false_iff_ne.mpr (by omega)
  have q58 : (b == 58) = false := beq_eq_false_iff_ne.mpr (by omega)
  have q61 : (b == 61) = false := beq_eq_false_iff_ne.mpr (by omega)
  have q63 : (b == 63) = false := beq_eq_false_iff_ne.mpr (by omega)
  have q42 : (b == 42) = false := beq_eq_false_iff_ne.mpr (by omega)
  have q38 : (b == 38) = false := beq_eq_false_iff_ne.mpr (by omega)
  clear h1 h2
  go_enter Tryd.func29, Tryd.ntmps29
  go_wp2
  all_goals (go_ret; exact ⟨rfl, rfl⟩)
set_option maxHeartbeats 16000000 in
set_option maxRecDepth 100000 in
theorem pr_11_false (b : Int) (w : World) (h1 : 62 ≤ b) (h2 : b ≤ 62) : Calls Tryd.prog 29 #[.int .u8 b, .bool true, .bool false] w fun e w' => e = .returned (.bool false) ∧ w' = w := by
  have q97 : decide (97 ≤ b) = false := decide_eq_false (by omega)
  have q65 : decide (65 ≤ b) = false := decide_eq_false (by omega)
  have q48 : decide (48 ≤ b) = true := decide_eq_true (by omega)
  have q39 : decide (39 ≤ b) = true := decide_eq_true (by omega)
  have q43 : decide (43 ≤ b) = true := decide_eq_true (by omega)
  have q122 : decide (b ≤ 122) = true := decide_eq_true (by omega)
  have q90 : decide (b ≤ 90) = true := decide_eq_true (by omega)
  have q57 : decide (b ≤ 57) = false := decide_eq_false (by omega)
  have q41 : decide (b ≤ 41) = false := decide_eq_false (by omega)
  have q47 : decide (b ≤ 47) = false := decide_eq_false (by omega)
  have q32 : (b == 32) = false := beq_eq_false_iff_ne.mpr (by omega)
  have q58 : (b == 58) = false := beq_eq_false_iff_ne.mpr (by omega)
  have q61 : (b == 61) = false := beq_eq_false_iff_ne.mpr (by omega)
  have q63 : (b == 63) = false := beq_eq_false_iff_ne.mpr (by omega)
  have q42 : (b == 42) = false := beq_eq_false_iff_ne.mpr (by omega)
  have q38 : (b == 38) = false := beq_eq_false_iff_ne.mpr (by omega)
  clear h1 h2
  go_enter Tryd.func29, Tryd.ntmps29
  go_wp2
  all_goals (go_ret; exact ⟨rfl, rfl⟩)
end Go.Proofs.YtmiemfgcggkbnaaDoor.QT
