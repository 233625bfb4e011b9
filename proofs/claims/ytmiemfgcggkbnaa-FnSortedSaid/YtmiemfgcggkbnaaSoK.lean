/- slices.SortFunc's contract laid at this program. -/
import Derived.Test.YtmiemfgcggkbnaaSoG
import Derived.Test.YtmiemfgcggkbnaaSoD
import Derived.Shelf.SlSortCmp.Whole1
import Derived.Shelf.Lay
import Derived.Ground.SlsfProg
namespace Go.Proofs
open Go.Shelf
shelf_lay_g SlLaysF.n6 Slsf 6 at Try 15 as Try.sortL
end Go.Proofs
namespace Go.Proofs.Ytmiemfgcggkbnaa.QS
set_option linter.unusedVariables false
set_option linter.unusedSimpArgs false
open Go.RowKit Go.Proofs.YtmiemfgcggkbnaaW.PrintWords Go.Proofs.YtmiemfgcggkbnaaW.PrintLast Go.Proofs.YtmiemfgcggkbnaaW.PrintMore
open Go.Sort Go.Proofs Go.Lib Go.Shelf
theorem sortLaw_of (g : Nat) (eg : ∀ args w, (callFunc g args).run Try.prog w = .ok (.enter g args) w) : SortLaw g := by
  intro w blk cap d hc hH hb hs
  exact Any.slices_SortFunc Try.sortL Al.v (fun _ => rfl) cfA swoA g #[] blk 0 cap d w eg hc hH hb hs
theorem eg16 : ∀ args w, (callFunc 16 args).run Try.prog w = .ok (.enter 16 args) w := enters_of Try.func16 (by kernel_rfl) rfl
theorem eg127 : ∀ args w, (callFunc 127 args).run Try.prog w = .ok (.enter 127 args) w := enters_of Try.func127 (by kernel_rfl) rfl
theorem sort16 : SortLaw 16 := sortLaw_of 16 eg16
theorem sort127 : SortLaw 127 := sortLaw_of 127 eg127
theorem is16 : CmpIs 16 := fun x y w hx hy => (cmp16 x y w hx hy).mono fun _ _ ⟨he, hw⟩ => ⟨he, 0, hw⟩
theorem is127 : CmpIs 127 := cmp127
end Go.Proofs.Ytmiemfgcggkbnaa.QS
