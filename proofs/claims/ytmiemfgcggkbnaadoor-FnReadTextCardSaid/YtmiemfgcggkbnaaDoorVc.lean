/- isPrintable, walked: it answers what the plain table of printable letters says. -/
import Derived.Test.YtmiemfgcggkbnaaDoorVa
import Derived.Test.YtmiemfgcggkbnaaDoorVca
import Derived.Test.YtmiemfgcggkbnaaDoorVcb
import Derived.Lib.SlBytesConst
import Derived.Lib.ValidAsc
import Derived.Lib.ValidLaws
import Derived.Lib.EndianBits
import Derived.Shelf.Unicode.DecodeSlow
import Derived.Laws.BitsAllLaws
namespace Go.Proofs.YtmiemfgcggkbnaaDoor.QT
open Go.BigFrame
open Go.RowKit Go.Proofs.YtmiemfgcggkbnaaDoorW.PrintWords Go.Proofs.YtmiemfgcggkbnaaDoorW.PrintLast Go.Proofs.YtmiemfgcggkbnaaDoorW.PrintMore
set_option linter.unusedVariables false
set_option linter.unusedSimpArgs false
def prB (b : Int) (am : Bool) : Bool := decide (97 ≤ b ∧ b ≤ 122) || decide (65 ≤ b ∧ b ≤ 90) || decide (48 ≤ b ∧ b ≤ 57) || decide (39 ≤ b ∧ b ≤ 41) || decide (43 ≤ b ∧ b ≤ 47) || decide (b = 32) || decide (b = 58) || decide (b = 61) || decide (b = 63) || decide (b = 42) || (am && decide (b = 38))
set_option maxHeartbeats 16000000 in
set_option maxRecDepth 100000 in
theorem pr_12_true (b : Int) (w : World) (h1 : 63 ≤ b) (h2 : b ≤ 63) : Calls Tryd.prog 29 #[.int .u8 b, .bool true, .bool true] w fun e w' => e = .returned (.bool true) ∧ w' = w := by
  have q97 : decide (97 ≤ b) = false := decide_eq_false (by omega)
  have q65 : decide (65 ≤ b) = false := decide_eq_false (by omega)
  have q48 : decide (48 ≤ b) = true := decide_eq_true (by omega)
  have q39 : decide (39 ≤ b) = true := decide_eq_true (by omega)
  have q43 : decide (43 ≤ b) = true := decide_eq_true (by omega)
  have q122 : decide (b ≤ 122) = true := decide_eq_true (by omega)
  have q90 : decide (b ≤ 90) = true := decide_eq_true (by omega)
  have q57 : decide (b ≤ 57) = false := decide_eq_false (by omega)
  have q41 : decide (b ≤ 41) = false := decide_eq_false (by omega)
  have q47 : decide (b ≤ 47) = false := decide_eq_false (by omega)
  have q32 : (b == 32) = false := beq_eq_false_iff_ne.mpr (by omega)
  have q58 : (b == 58) = false := beq_eq_false_iff_ne.mpr (by omega)
  have q61 : (b == 61) = false := beq_eq_false_iff_ne.mpr (by omega)
  have q63 : (b == 63) = true := beq_iff_eq.mpr (by omega)
  have q42 : (b == 42) = false := beq_eq_false_iff_ne.mpr (by omega)
  have q38 : (b == 38) = false := beq_eq_false_iff_ne.mpr (by omega)
  clear h1 h2
  go_enter Tryd.func29, Tryd.ntmps29
  go_wp2
  all_goals (go_ret; exact ⟨rfl, rfl⟩)
set_option maxHeartbeats 16000000 in
set_option maxRecDepth 100000 in
theorem pr_12_false (b : Int) (w : World) (h1 : 63 ≤ b) (h2 : b ≤ 63) : Calls Tryd.prog 29 #[.int .u8 b, .bool true, .bool false] w fun e w' => e = .returned (.bool true) ∧ w' = w := by
  have q97 : decide (97 ≤ b) = false := decide_eq_false (by omega)
  have q65 : decide (65 ≤ b) = false := decide_eq_false (by omega)
  have q48 : decide (48 ≤ b) = true := decide_eq_true (by omega)
  have q39 : decide (39 ≤ b) = true := decide_eq_true (by omega)
  have q43 : decide (43 ≤ b) = true := decide_eq_true (by omega)
  have q122 : decide (b ≤ 122) = true := decide_eq_true (by omega)
  have q90 : decide (b ≤ 90) = true := decide_eq_true (by omega)
  have q57 : decide (b ≤ 57) = false := decide_eq_false (by omega)
  have q41 : decide (b ≤ 41) = false := decide_eq_false (by omega)
  have q47 : decide (b ≤ 47) = false := decide_eq_false (by omega)
  have q32 : (b == 32) = false := beq_eq_false_iff_ne.mpr (by omega)
  have q58 : (b == 58) = false := beq_eq_false_iff_ne.mpr (by omega)
  have q61 : (b == 61) = false := beq_eq_false_iff_ne.mpr (by omega)
  have q63 : (b == 63) = true := beq_iff_eq.mpr (by omega)
  have q42 : (b == 42) = false := beq_eq_false_iff_ne.mpr (by omega)
  have q38 : (b == 38) = false := beq_eq_false_iff_ne.mpr (by omega)
  clear h1 h2
  go_enter Tryd.func29, Tryd.ntmps29
  go_wp2
  all_goals (go_ret; exact ⟨rfl, rfl⟩)
set_option maxHeartbeats 16000000 in
set_option maxRecDepth 100000 in
theorem pr_13_true (b : Int) (w : World) (h1 : 64 ≤ b) (h2 : b ≤ 64) : Calls Tryd.prog 29 #[.int .u8 b, .bool true, .bool true] w fun e w' => e = .returned (.bool false) ∧ w' = w := by
  have q97 : decide (97 ≤ b) = false := decide_eq_false (by omega)
  have q65 : decide (65 ≤ b) = false := decide_eq_false (by omega)
  have q48 : decide (48 ≤ b) = true := decide_eq_true (by omega)
  have q39 : decide (39 ≤ b) = true := decide_eq_true (by omega)
  have q43 : decide (43 ≤ b) = true := decide_eq_true (by omega)
  have q122 : decide (b ≤ 122) = true := decide_eq_true (by omega)
  have q90 : decide (b ≤ 90) = true := decide_eq_true (by omega)
  have q57 : decide (b ≤ 57) = false := decide_eq_false (by omega)
  have q41 : decide (b ≤ 41) = false := decide_eq_false (by omega)
  have q47 : decide (b ≤ 47) = false := decide_eq_false (by omega)
  have q32 : (b == 32) = false := beq_eq_false_iff_ne.mpr (by omega)
  have q58 : (b == 58) = false := beq_eq_false_iff_ne.mpr (by omega)
  have q61 : (b == 61) = false := beq_eq_false_iff_ne.mpr (by omega)
  have q63 : (b == 63) = false := beq_eq_false_iff_ne.mpr (by omega)
  have q42 : (b == 42) = false := beq_eq_false_iff_ne.mpr (by omega)
  have q38 : (b == 38) = false := beq_eq_false_iff_ne.mpr (by omega)
  clear h1 h2
  go_enter Tryd.func29, Tryd.ntmps29
  go_wp2
  all_goals (go_ret; exact ⟨rfl, rfl⟩)
set_option maxHeartbeats 16000000 in
set_option maxRecDepth 100000 in
theorem pr_13_false (b : Int) (w : World) (h1 : 64 ≤ b) (h2 : b ≤ 64) : Calls Tryd.prog 29 #[.int .u8 b, .bool true, .bool false] w fun e w' => e = .returned (.bool false) ∧ w' = w := by
  have q97 : decide (97 ≤ b) = false := decide_eq_false (by omega)
  have q65 : decide (65 ≤ b) = false := decide_eq_false (by omega)
  have q48 : decide (48 ≤ b) = true := decide_eq_true (by omega)
  have q39 : decide (39 ≤ b) = true := decide_eq_true (by omega)
  have q43 : decide (43 ≤ b) = true := decide_eq_true (by omega)
  have q122 : decide (b ≤ 122) = true := decide_eq_true (by omega)
  have q90 : decide (b ≤ 90) = true := decide_eq_true (by omega)
  have q57 : decide (b ≤ 57) = false := decide_eq_false (by omega)
  have q41 : decide (b ≤ 41) = false := decide_eq_false (by omega)
  have q47 : decide (b ≤ 47) = false := decide_eq_false (by omega)
  have q32 : (b == 32) = false := beq_eq_false_iff_ne.mpr (by omega)
  have q58 : (b == 58) = false := beq_eq_false_iff_ne.mpr (by omega)
  have q61 : (b == 61) = false := beq_eq_false_iff_ne.mpr (by omega)
  have q63 : (b == 63) = false := beq_eq_false_iff_ne.mpr (by omega)
  have q42 : (b == 42) = false := beq_eq_false_iff_ne.mpr (by omega)
  have q38 : (b == 38) = false := beq_eq_false_iff_ne.mpr (by omega)
  clear h1 h2
  go_enter Tryd.func29, Tryd.ntmps29
  go_wp2
  all_goals (go_ret; exact ⟨rfl, rfl⟩)
set_option maxHeartbeats 16000000 in
set_option maxRecDepth 100000 in
theorem pr_14_true (b : Int) (w : World) (h1 : 65 ≤ b) (h2 : b ≤ 90) : Calls Tryd.prog 29 #[.int .u8 b, .bool true, .bool true] w fun e w' => e = .returned (.bool true) ∧ w' = w := by
  have q97 : decide (97 ≤ b) = false := decide_eq_false (by omega)
  have q65 : decide (65 ≤ b) = true := decide_eq_true (by omega)
  have q48 : decide (48 ≤ b) = true := decide_eq_true (by omega)
  have q39 : decide (39 ≤ b) = true := decide_eq_true (by omega)
  have q43 : decide (43 ≤ b) = true := decide_eq_true (by omega)
  have q122 : decide (b ≤ 122) = true := decide_eq_true (by omega)
  have q90 : decide (b ≤ 90) = true := decide_eq_true (by omega)
  have q57 : decide (b ≤ 57) = false := decide_eq_false (by omega)
  have q41 : decide (b ≤ 41) = false := decide_eq_false (by omega)
  have q47 : decide (b ≤ 47) = false := decide_eq_false (by omega)
  have q32 : (b == 32) = false := beq_eq_false_iff_ne.mpr (by omega)
  have q58 : (b == 58) = false := beq_eq_false_iff_ne.mpr (by omega)
  have q61 : (b == 61) = false := beq_eq_false_iff_ne.mpr (by omega)
  have q63 : (b == 63) = false := beq_eq_false_iff_ne.mpr (by omega)
  have q42 : (b == 42) = false := beq_eq_false_iff_ne.mpr (by omega)
  have q38 : (b == 38) = false := beq_eq_false_iff_ne.mpr (by omega)
  clear h1 h2
  go_enter Tryd.func29, Tryd.ntmps29
  go_wp2
  all_goals (go_ret; exact ⟨rfl, rfl⟩)
set_option maxHeartbeats 16000000 in
set_option maxRecDepth 100000 in
theorem pr_14_false (b : Int) (w : World) (h1 : 65 ≤ b) (h2 : b ≤ 90) : Calls Tryd.prog 29 #[.int .u8 b, .bool true, .bool false] w fun e w' => e = .returned (.bool true) ∧ w' = w := by
  have q97 : decide (97 ≤ b) = false := decide_eq_false (by omega)
  have q65 : decide (65 ≤ b) = true := decide_eq_true (by omega)
  have q48 : decide (48 ≤ b) = true := decide_eq_true (by omega)
  have q39 : decide (39 ≤ b) = true := decide_eq_true (by omega)
  have q43 : decide (43 ≤ b) = true := decide_eq_true (by omega)
  have q122 : decide (b ≤ 122) = true := decide_eq_true (by omega)
  have q90 : decide (b ≤ 90) = true := decide_eq_true (by omega)
  have q57 : decide (b ≤ 57) = false := decide_eq_false (by omega)
  have q41 : decide (b ≤ 41) = false := decide_eq_false (by omega)
  have q47 : decide (b ≤ 47) = false := decide_eq_false (by omega)
  have q32 : (b == 32) = false := beq_eq_false_iff_ne.mpr (by omega)
  have q58 : (b == 58) = false := beq_eq_false_iff_ne.mpr (by omega)
  have q61 : (b == 61) = false := beq_eq_false_iff_ne.mpr (by omega)
  have q63 : (b == 63) = false := beq_eq_false_iff_ne.mpr (by omega)
  have q42 : (b == 42) = false := beq_eq_false_iff_ne.mpr (by omega)
  have q38 : (b == 38) = false := beq_eq_false_iff_ne.mpr (by omega)
  clear h1 h2
  go_enter Tryd.func29, Tryd.ntmps29
  go_wp2
  all_goals (go_ret; exact ⟨rfl, rfl⟩)
set_option maxHeartbeats 16000000 in
set_option maxRecDepth 100000 in
theorem pr_15_true (b : Int) (w : World) (h1 : 91 ≤ b) (h2 : b ≤ 96) : Calls Tryd.prog 29 #[.int .u8 b, .bool true, .bool true] w fun e w' => e = .returned (.bool false) ∧ w' = w := by
  have q97 : decide (97 ≤ b) = false := decide_eq_false (by omega)
  have q65 : decide (65 ≤ b) = true := decide_eq_true (by omega)
  have q48 : decide (48 ≤ b) = true := decide_eq_true (by omega)
  have q39 : decide (39 ≤ b) = true := decide_eq_true (by omega)
  have q43 : decide (43 ≤ b) = true := decide_eq_true (by omega)
  have q122 : decide (b ≤ 122) = true := decide_eq_true (by omega)
  have q90 : decide (b ≤ 90) = false := decide_eq_false (by omega)
  have q57 : decide (b ≤ 57) = false := decide_eq_false (by omega)
  have q41 : decide (b ≤ 41) = false := decide_eq_false (by omega)
  have q47 : decide (b ≤ 47) = false := decide_eq_false (by omega)
  have q32 : (b == 32) = false := beq_eq_false_iff_ne.mpr (by omega)
  have q58 : (b == 58) = false := beq_eq_false_iff_ne.mpr (by omega)
  have q61 : (b == 61) = false := beq_eq_false_iff_ne.mpr (by omega)
  have q63 : (b == 63) = false := beq_eq_false_iff_ne.mpr (by omega)
  have q42 : (b == 42) = false := beq_eq_false_iff_ne.mpr (by omega)
  have q38 : (b == 38) = false := beq_eq_false_iff_ne.mpr (by omega)
  clear h1 h2
  go_enter Tryd.func29, Tryd.ntmps29
  go_wp2
  all_goals (go_ret; exact ⟨rfl, rfl⟩)
set_option maxHeartbeats 16000000 in
set_option maxRecDepth 100000 in
theorem pr_15_false (b : Int) (w : World) (h1 : 91 ≤ b) (h2 : b ≤ 96) : Calls Tryd.prog 29 #[.int .u8 b, .bool true, .bool false] w fun e w' => e = .returned (.bool false) ∧ w' = w := by
  have q97 : decide (97 ≤ b) = false := decide_eq_false (by omega)
  have q65 : decide (65 ≤ b) = true := decide_eq_true (by omega)
  have q48 : decide (48 ≤ b) = true := decide_eq_true (by omega)
  have q39 : decide (39 ≤ b) = true := decide_eq_true (by omega)
  have q43 : decide (43 ≤ b) = true := decide_eq_true (by omega)
  have q122 : decide (b ≤ 122) = true := decide_eq_true (by omega)
  have q90 : decide (b ≤ 90) = false := decide_eq_false (by omega)
  have q57 : decide (b ≤ 57) = false := decide_eq_false (by omega)
  have q41 : decide (b ≤ 41) = false := decide_eq_false (by omega)
  have q47 : decide (b ≤ 47) = false := decide_eq_false (by omega)
  have q32 : (b == 32) = false := beq_eq_false_iff_ne.mpr (by omega)
  have q58 : (b == 58) = false := beq_eq_false_iff_ne.mpr (by omega)
  have q61 : (b == 61) = false := beq_eq_false_iff_ne.mpr (by omega)
  have q63 : (b == 63) = false := beq_eq_false_iff_ne.mpr (by omega)
  have q42 : (b == 42) = false := beq_eq_false_iff_ne.mpr (by omega)
  have q38 : (b == 38) = false := beq_eq_false_iff_ne.mpr (by omega)
  clear h1 h2
  go_enter Tryd.func29, Tryd.ntmps29
  go_wp2
  all_goals (go_ret; exact ⟨rfl, rfl⟩)
set_option maxHeartbeats 16000000 in
set_option maxRecDepth 100000 in
theorem pr_16_true (b : Int) (w : World) (h1 : 97 ≤ b) (h2 : b ≤ 122) : Calls Tryd.prog 29 #[.int .u8 b, .bool true, .bool true] w fun e w' => e = .returned (.bool true) ∧ w' = w := by
  have q97 : decide (97 ≤ b) = true := decide_eq_true (by omega)
  have q65 : decide (65 ≤ b) = true := decide_eq_true (by omega)
  have q48 : decide (48 ≤ b) = true := decide_eq_true (by omega)
  have q39 : decide (39 ≤ b) = true := decide_eq_true (by omega)
  have q43 : decide (43 ≤ b) = true := decide_eq_true (by omega)
  have q122 : decide (b ≤ 122) = true := decide_eq_true (by omega)
  have q90 : decide (b ≤ 90) = false := decide_eq_false (by omega)
  have q57 : decide (b ≤ 57) = false := decide_eq_false (by omega)
  have q41 : decide (b ≤ 41) = false := decide_eq_false (by omega)
  have q47 : decide (b ≤ 47) = false := decide_eq_false (by omega)
  have q32 : (b == 32) = false := beq_eq_false_iff_ne.mpr (by omega)
  have q58 : (b == 58) = false := beq_eq_false_iff_ne.mpr (by omega)
  have q61 : (b == 61) = false := beq_eq_false_iff_ne.mpr (by omega)
  have q63 : (b == 63) = false := beq_eq_false_iff_ne.mpr (by omega)
  have q42 : (b == 42) = false := beq_eq_false_iff_ne.mpr (by omega)
  have q38 : (b == 38) = false := beq_eq_false_iff_ne.mpr (by omega)
  clear h1 h2
  go_enter Tryd.func29, Tryd.ntmps29
  go_wp2
  all_goals (go_ret; exact ⟨rfl, rfl⟩)
set_option maxHeartbeats 16000000 in
set_option maxRecDepth 100000 in
theorem pr_16_false (b : Int) (w : World) (h1 : 97 ≤ b) (h2 : b ≤ 122) : Calls Tryd.prog 29 #[.int .u8 b, .bool true, .bool false] w fun e w' => e = .returned (.bool true) ∧ w' = w := by
  have q97 : decide (97 ≤ b) = true := decide_eq_true (by omega)
  have q65 : decide (65 ≤ b) = true := decide_eq_true (by omega)
  have q48 : decide (48 ≤ b) = true := decide_eq_true (by omega)
  have q39 : decide (39 ≤ b) = true := decide_eq_true (by omega)
  have q43 : decide (43 ≤ b) = true := decide_eq_true (by omega)
  have q122 : decide (b ≤ 122) = true := decide_eq_true (by omega)
  have q90 : decide (b ≤ 90) = false := decide_eq_false (by omega)
  have q57 : decide (b ≤ 57) = false := decide_eq_false (by omega)
  have q41 : decide (b ≤ 41) = false := decide_eq_false (by omega)
  have q47 : decide (b ≤ 47) = false := decide_eq_false (by omega)
  have q32 : (b == 32) = false := beq_eq_false_iff_ne.mpr (by omega)
  have q58 : (b == 58) = false := beq_eq_false_iff_ne.mpr (by omega)
  have q61 : (b == 61) = false := beq_eq_false_iff_ne.mpr (by omega)
  have q63 : (b == 63) = false := beq_eq_false_iff_ne.mpr (by omega)
  have q42 : (b == 42) = false := beq_eq_false_iff_ne.mpr (by omega)
  have q38 : (b == 38) = false := beq_eq_false_iff_ne.mpr (by omega)
  clear h1 h2
  go_enter Tryd.func29, Tryd.ntmps29
  go_wp2
  all_goals (go_ret; exact ⟨rfl, rfl⟩)
set_option maxHeartbeats 16000000 in
set_option maxRecDepth 100000 in
theorem pr_17_true (b : Int) (w : World) (h1 : 123 ≤ b) (h2 : b ≤ 255) : Calls Tryd.prog 29 #[.int .u8 b, .bool true, .bool true] w fun e w' => e = .returned (.bool false) ∧ w' = w := by
  have q97 : decide (97 ≤ b) = true := decide_eq_true (by omega)
  have q65 : decide (65 ≤ b) = true := decide_eq_true (by omega)
  have q48 : decide (48 ≤ b) = true := decide_eq_true (by omega)
  have q39 : decide (39 ≤ b) = true := decide_eq_true (by omega)
  have q43 : decide (43 ≤ b) = true := decide_eq_true (by omega)
  have q122 : decide (b ≤ 122) = false := decide_eq_false (by omega)
  have q90 : decide (b ≤ 90) = false := decide_eq_false (by omega)
  have q57 : decide (b ≤ 57) = false := decide_eq_false (by omega)
  have q41 : decide (b ≤ 41) = false := decide_eq_false (by omega)
  have q47 : decide (b ≤ 47) = false := decide_eq_false (by omega)
  have q32 : (b == 32) = false := beq_eq_false_iff_ne.mpr (by omega)
  have q58 : (b == 58) = false := beq_eq_false_iff_ne.mpr (by omega)
  have q61 : (b == 61) = false := beq_eq_false_iff_ne.mpr (by omega)
  have q63 : (b == 63) = false := beq_eq_false_iff_ne.mpr (by omega)
  have q42 : (b == 42) = false := beq_eq_false_iff_ne.mpr (by omega)
  have q38 : (b == 38) = false := beq_eq_false_iff_ne.mpr (by omega)
  clear h1 h2
  go_enter Tryd.func29, Tryd.ntmps29
  go_wp2
  all_goals (go_ret; exact ⟨rfl, rfl⟩)
set_option maxHeartbeats 16000000 in
set_option maxRecDepth 100000 in
theorem pr_17_false (b : Int) (w : World) (h1 : 123 ≤ b) (h2 : b ≤ 255) : Calls Tryd.prog 29 #[.int .u8 b, .bool true, .bool false] w fun e w' => e = .returned (.bool false) ∧ w' = w := by
  have q97 : decide (97 ≤ b) = true := decide_eq_true (by omega)
  have q65 : decide (65 ≤ b) = true := decide_eq_true (by omega)
  have q48 : decide (48 ≤ b) = true := decide_eq_true (by omega)
  have q39 : decide (39 ≤ b) = true := decide_eq_true (by omega)
  have q43 : decide (43 ≤ b) = true := decide_eq_true (by omega)
  have q122 : decide (b ≤ 122) = false := decide_eq_false (by omega)
  have q90 : decide (b ≤ 90) = false := decide_eq_false (by omega)
  have q57 : decide (b ≤ 57) = false := decide_eq_false (by omega)
  have q41 : decide (b ≤ 41) = false := decide_eq_false (by omega)
  have q47 : decide (b ≤ 47) = false := decide_eq_false (by omega)
  have q32 : (b == 32) = false := beq_eq_false_iff_ne.mpr (by omega)
  have q58 : (b == 58) = false := beq_eq_false_iff_ne.mpr (by omega)
  have q61 : (b == 61) = false := beq_eq_false_iff_ne.mpr (by omega)
  have q63 : (b == 63) = false := beq_eq_false_iff_ne.mpr (by omega)
  have q42 : (b == 42) = false := beq_eq_false_iff_ne.mpr (by omega)
  have q38 : (b == 38) = false := beq_eq_false_iff_ne.mpr (by omega)
  clear h1 h2
  go_enter Tryd.func29, Tryd.ntmps29
  go_wp2
  all_goals (go_ret; exact ⟨rfl, rfl⟩)
theorem pr_any (b : Int) (am : Bool) (w : World) (h0 : 0 ≤ b) (h255 : b ≤ 255) : Calls Tryd.prog 29 #[.int .u8 b, .bool true, .bool am] w fun e w' => e = .returned (.bool (prB b am)) ∧ w' = w := by
  by_cases h1000 : b ≤ 31
  case pos =>
    have lo_ : 0 ≤ b := by omega
    cases am with
    | true =>
      rw [show prB b true = false from by unfold prB; simp; try omega]
      exact pr_0_true b w lo_ h1000
    | false =>
      rw [show prB b false = false from by unfold prB; simp; try omega]
      exact pr_0_false b w lo_ h1000
  by_cases h1001 : b ≤ 32
  case pos =>
    have lo_ : 32 ≤ b := by omega
    cases am with
    | true =>
      rw [show prB b true = true from by unfold prB; simp; try omega]
      exact pr_1_true b w lo_ h1001
    | false =>
      rw [show prB b false = true from by unfold prB; simp; try omega]
      exact pr_1_false b w lo_ h1001
  by_cases h1002 : b ≤ 37
  case pos =>
    have lo_ : 33 ≤ b := by omega
    cases am with
    | true =>
      rw [show prB b true = false from by unfold prB; simp; try omega]
      exact pr_2_true b w lo_ h1002
    | false =>
      rw [show prB b false = false from by unfold prB; simp; try omega]
      exact pr_2_false b w lo_ h1002
  by_cases h1003 : b ≤ 38
  case pos =>
    have lo_ : 38 ≤ b := by omega
    cases am with
    | true =>
      rw [show prB b true = true from by unfold prB; simp; try omega]
      exact pr_3_true b w lo_ h1003
    | false =>
      rw [show prB b false = false from by unfold prB; simp; try omega]
      exact pr_3_false b w lo_ h1003
  by_cases h1004 : b ≤ 41
  case pos =>
    have lo_ : 39 ≤ b := by omega
    cases am with
    | true =>
      rw [show prB b true = true from by unfold prB; simp; try omega]
      exact pr_4_true b w lo_ h1004
    | false =>
      rw [show prB b false = true from by unfold prB; simp; try omega]
      exact pr_4_false b w lo_ h1004
  by_cases h1005 : b ≤ 42
  case pos =>
    have lo_ : 42 ≤ b := by omega
    cases am with
    | true =>
      rw [show prB b true = true from by unfold prB; simp; try omega]
      exact pr_5_true b w lo_ h1005
    | false =>
      rw [show prB b false = true from by unfold prB; simp; try omega]
      exact pr_5_false b w lo_ h1005
  by_cases h1006 : b ≤ 47
  case pos =>
    have lo_ : 43 ≤ b := by omega
    cases am with
    | true =>
      rw [show prB b true = true from by unfold prB; simp; try omega]
      exact pr_6_true b w lo_ h1006
    | false =>
      rw [show prB b false = true from by unfold prB; simp; try omega]
      exact pr_6_false b w lo_ h1006
  by_cases h1007 : b ≤ 57
  case pos =>
    have lo_ : 48 ≤ b := by omega
    cases am with
    | true =>
      rw [show prB b true = true from by unfold prB; simp; try omega]
      exact pr_7_true b w lo_ h1007
    | false =>
      rw [show prB b false = true from by unfold prB; simp; try omega]
      exact pr_7_false b w lo_ h1007
  by_cases h1008 : b ≤ 58
  case pos =>
    have lo_ : 58 ≤ b := by omega
    cases am with
    | true =>
      rw [show prB b true = true from by unfold prB; simp; try omega]
      exact pr_8_true b w lo_ h1008
    | false =>
      rw [show prB b false = true from by unfold prB; simp; try omega]
      exact pr_8_false b w lo_ h1008
  by_cases h1009 : b ≤ 60
  case pos =>
    have lo_ : 59 ≤ b := by omega
    cases am with
    | true =>
      rw [show prB b true = false from by unfold prB; simp; try omega]
      exact pr_9_true b w lo_ h1009
    | false =>
      rw [show prB b false = false from by unfold prB; simp; try omega]
      exact pr_9_false b w lo_ h1009
  by_cases h1010 : b ≤ 61
  case pos =>
    have lo_ : 61 ≤ b := by omega
    cases am with
    | true =>
      rw [show prB b true = true from by unfold prB; simp; try omega]
      exact pr_10_true b w lo_ h1010
    | false =>
      rw [show prB b false = true from by unfold prB; simp; try omega]
      exact pr_10_false b w lo_ h1010
  by_cases h1011 : b ≤ 62
  case pos =>
    have lo_ : 62 ≤ b := by omega
    cases am with
    | true =>
      rw [show prB b true = false from by unfold prB; simp; try omega]
      exact pr_11_true b w lo_ h1011
    | false =>
      rw [show prB b false = false from by unfold prB; simp; try omega]
      exact pr_11_false b w lo_ h1011
  by_cases h1012 : b ≤ 63
  case pos =>
    have lo_ : 63 ≤ b := by omega
    cases am with
    | true =>
      rw [show prB b true = true from by unfold prB; simp; try omega]
      exact pr_12_true b w lo_ h1012
    | false =>
      rw [show prB b false = true from by unfold prB; simp; try omega]
      exact pr_12_false b w lo_ h1012
  by_cases h1013 : b ≤ 64
  case pos =>
    have lo_ : 64 ≤ b := by omega
    cases am with
    | true =>
      rw [show prB b true = false from by unfold prB; simp; try omega]
      exact pr_13_true b w lo_ h1013
    | false =>
      rw [show prB b false = false from by unfold prB; simp; try omega]
      exact pr_13_false b w lo_ h1013
  by_cases h1014 : b ≤ 90
  case pos =>
    have lo_ : 65 ≤ b := by omega
    cases am with
    | true =>
      rw [show prB b true = true from by unfold prB; simp; try omega]
      exact pr_14_true b w lo_ h1014
    | false =>
      rw [show prB b false = true from by unfold prB; simp; try omega]
      exact pr_14_false b w lo_ h1014
  by_cases h1015 : b ≤ 96
  case pos =>
    have lo_ : 91 ≤ b := by omega
    cases am with
    | true =>
      rw [show prB b true = false from by unfold prB; simp; try omega]
      exact pr_15_true b w lo_ h1015
    | false =>
      rw [show prB b false = false from by unfold prB; simp; try omega]
      exact pr_15_false b w lo_ h1015
  by_cases h1016 : b ≤ 122
  case pos =>
    have lo_ : 97 ≤ b := by omega
    cases am with
    | true =>
      rw [show prB b true = true from by unfold prB; simp; try omega]
      exact pr_16_true b w lo_ h1016
    | false =>
      rw [show prB b false = true from by unfold prB; simp; try omega]
      exact pr_16_false b w lo_ h1016
  by_cases h1017 : b ≤ 255
  case pos =>
    have lo_ : 123 ≤ b := by omega
    cases am with
    | true =>
      rw [show prB b true = false from by unfold prB; simp; try omega]
      exact pr_17_true b w lo_ h1017
    | false =>
      rw [show prB b false = false from by unfold prB; simp; try omega]
      exact pr_17_false b w lo_ h1017
  omega
end Go.Proofs.YtmiemfgcggkbnaaDoor.QT
