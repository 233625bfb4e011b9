/- slices.SortFunc at no member; both comparisons. -/
import Derived.Test.YtmiemfgcggkbnaaSoK
namespace Go.Proofs.Ytmiemfgcggkbnaa.QS
set_option linter.unusedVariables false
set_option linter.unusedSimpArgs false
open Go.RowKit Go.Proofs.YtmiemfgcggkbnaaW.PrintWords Go.Proofs.YtmiemfgcggkbnaaW.PrintLast Go.Proofs.YtmiemfgcggkbnaaW.PrintMore
open Go.Sort Go.Proofs Go.Lib Go.Shelf
set_option maxHeartbeats 2000000 in
theorem ins_none (p : Option Addr) (cap : Nat) (fv : Value) (w : World) : Calls Try.prog 70 #[.slice p 0 cap, .int .i64 0, .int .i64 0, fv] w fun e w' => e = .returned (.tuple #[]) ∧ w' = w := by
  go_enter Try.func70, Try.ntmps70
  go_wp2
  refine wp_loop_rounds 1 ?_
  rw [rounds_succ]
  go_wp2
  go_end0
  exact ⟨rfl, rfl⟩
set_option maxHeartbeats 2000000 in
theorem pdq_none (p : Option Addr) (cap : Nat) (lim : Int) (fv : Value) (w : World) : Calls Try.prog 41 #[.slice p 0 cap, .int .i64 0, .int .i64 0, .int .i64 lim, fv] w fun e w' => e = .returned (.tuple #[]) ∧ w' = w := by
  go_enter Try.func41, Try.ntmps41
  go_wp2
  refine wp_loop_rounds 1 ?_
  rw [rounds_succ]
  go_wp2_with (go_at_call 70; refine (ins_none _ _ _ _).mono ?_; rintro e w' ⟨rfl, rfl⟩)
  (try simp only [Exit.inBlock, Exit.then]); refine bodyPost_ret (results_none rfl _ _ _) rfl ?_
  exact ⟨rfl, rfl⟩
theorem len_none (W : World) : Calls Try.prog 42 #[.int .u64 0] W fun e w' => e = .returned (.int .i64 (Lib.bitLen 0 : Nat)) ∧ w' = W :=
  Any.bits_Len (SlLaysF0.n15.bits (P := Try.prog) (ρ := Try.sortL_ren) { Try.sortL with }) 0 W (by omega) (by omega)
set_option maxHeartbeats 2000000 in
theorem sort_none (g : Nat) : SortNone g := by
  intro w p cap
  have hl := len_none
  generalize hb : (Lib.bitLen 0 : Nat) = q at hl
  go_enter Try.func15, Try.ntmps15
  go_wp2_with (first | (go_at_call 42; refine (hl _).mono ?_; rintro e w' ⟨rfl, rfl⟩) | (go_at_call 41; refine (pdq_none _ _ _ _ _).mono ?_; rintro e w' ⟨rfl, rfl⟩))
  go_end0
  exact ⟨rfl, rfl⟩
theorem sort_call16 (v : Value) (es : List El) (base : Nat) (ok : Nat → Prop) (w : World) (HO : KV.R 25 w base ok v es) (hg : ∀ e ∈ es, Good w e) (ha : ∀ e ∈ es, Apart v e) (hsz0 : es.length ≤ 1000000) :
    Calls Try.prog 15 #[v, .func (.func 16) #[] #[]] w fun e w' => e = .returned (.tuple #[]) ∧ ∃ es', es'.Perm es ∧ Asc (es'.map (·.l)) ∧ KV.R 25 w' base ok v es' ∧ w.grownBy w' v.ownBlock :=
  sort_call 16 sort16 (sort_none 16) is16 v es base ok w HO hg ha hsz0
theorem sort_call127 (v : Value) (es : List El) (base : Nat) (ok : Nat → Prop) (w : World) (HO : KV.R 25 w base ok v es) (hg : ∀ e ∈ es, Good w e) (ha : ∀ e ∈ es, Apart v e) (hsz0 : es.length ≤ 1000000) :
    Calls Try.prog 15 #[v, .func (.func 127) #[] #[]] w fun e w' => e = .returned (.tuple #[]) ∧ ∃ es', es'.Perm es ∧ Asc (es'.map (·.l)) ∧ KV.R 25 w' base ok v es' ∧ w.grownBy w' v.ownBlock :=
  sort_call 127 sort127 (sort_none 127) is127 v es base ok w HO hg ha hsz0
end Go.Proofs.Ytmiemfgcggkbnaa.QS
