-- Written by a program of this work (wip/patch_print.py) for this claim.
import Derived.Test.YtmiemfgcggkbnaaDoorProg
import Derived.Below
import Derived.Deep.Draws
import Derived.Deep.AppendLies
import Derived.Maps.AppendAt
import Derived.OwnWalk
import Derived.Laws.BytesArg
import Derived.Laws.MakeOwn
import Derived.Laws.OwnMore
import Derived.Deep.OwnRows
import Derived.Tactics
import Derived.Lib.ConvBytes
import Derived.Laws.Slices
import Derived.WalkKit
import Derived.KernelRfl
import Derived.RowKit3
import Derived.Deep.LoopGhost
import Derived.Deep.QuietTactic
import Derived.BigQuiet
import Derived.WideLaws
import Derived.Deep.DeepCutAuto
import Derived.Deep.CutBlock
import Derived.Deep.RegionHeld3
import Derived.Laws.Rows
import Derived.Lib.AppendStr
import Derived.ArgAppend
import Derived.Laws.IdiomCopy
import Derived.OrdersHeld
import Derived.Laws.BitsLemmas
import Derived.RowKit
import Derived.WalkSpells
import Derived.Laws.CopyOwn
import Derived.Deep.RegionLaw
import Derived.Lib.SlBytesConst
import Derived.Test.YtmiemfgcggkbnaaDoorWWords
import Derived.Test.YtmiemfgcggkbnaaDoorWLast
import Derived.Test.YtmiemfgcggkbnaaDoorWTab
import Derived.Test.YtmiemfgcggkbnaaDoorWFour
import Derived.Test.YtmiemfgcggkbnaaDoorWQPut
import Derived.Test.YtmiemfgcggkbnaaDoorWApart
import Derived.Test.YtmiemfgcggkbnaaDoorWArr
import Derived.Test.YtmiemfgcggkbnaaDoorWZeros
import Derived.Test.YtmiemfgcggkbnaaDoorWFoot
import Derived.Test.YtmiemfgcggkbnaaDoorWKept
import Derived.Test.YtmiemfgcggkbnaaDoorWShare
import Derived.Test.YtmiemfgcggkbnaaDoorWN
import Derived.Test.YtmiemfgcggkbnaaDoorWFootNe
import Derived.Test.YtmiemfgcggkbnaaDoorWAt
import Derived.Test.YtmiemfgcggkbnaaDoorWEqStruct
import Derived.Test.YtmiemfgcggkbnaaDoorWRepsOne
import Derived.Test.YtmiemfgcggkbnaaDoorWInv
import Derived.Test.YtmiemfgcggkbnaaDoorWInvWords
import Derived.Test.YtmiemfgcggkbnaaDoorWGuard
import Derived.Test.YtmiemfgcggkbnaaDoorWNEv
import Derived.Test.YtmiemfgcggkbnaaDoorWMore
namespace Go.Proofs.YtmiemfgcggkbnaaDoor.QT
open Go.RowKit Go.Proofs.YtmiemfgcggkbnaaDoorW.PrintWords Go.Proofs.YtmiemfgcggkbnaaDoorW.PrintLast Go.Proofs.YtmiemfgcggkbnaaDoorW.PrintMore
attribute [local go_sem] max2_int min2_int max_two min_two max_three min_three max_four min_four   -- for this text's walks alone
set_option linter.unusedVariables false
set_option linter.unusedSimpArgs false



def errT (c : Int) : TypeId :=
  match c.toNat with
  | 0 => 64
  | 1 => 64
  | _ => 0
def errX (c : Int) : Value :=
  match c.toNat with
  | 0 => .agg #[.string (⟨#[78, 117, 109, 101, 114, 105, 99, 83, 116, 114, 105, 110, 103, 32, 99, 111, 110, 116, 97, 105, 110, 115, 32, 105, 110, 118, 97, 108, 105, 100, 32, 99, 104, 97, 114, 97, 99, 116, 101, 114]⟩ : ByteArray)]
  | 1 => .agg #[.string (⟨#[73, 65, 53, 83, 116, 114, 105, 110, 103, 32, 99, 111, 110, 116, 97, 105, 110, 115, 32, 105, 110, 118, 97, 108, 105, 100, 32, 99, 104, 97, 114, 97, 99, 116, 101, 114]⟩ : ByteArray)]
  | _ => .nilIface
def errW : Option Int → Value
  | none => .nilIface
  | some c => .iface (errT c) (errX c)
theorem errW_none : errW none = .nilIface := rfl
theorem errW_some (c : Int) : errW (some c) = .iface (errT c) (errX c) := rfl
@[go_sem] theorem setCell_drewN_ (w : World) (n : Nat) (a : Addr) (v : Value) : (w.drewN n).setCell a v = (w.setCell a v).drewN n := (rfl)
@[go_sem] theorem slice_zero_ (P : Program) (t : TypeId) (A : Option Addr) (n c : Nat) (hi : Option Value) (W : World) : (Instr.slice t (.slice A n c) (some (.int .i64 0)) hi none).run P W = (Instr.slice t (.slice A n c) none hi none).run P W := (rfl)
@[go_sem] theorem cell_set_twice_ (w : World) (a : Addr) (v v2 : Value) : ((w.setCell a v).setCell a v2).cell? a = (w.setCell a v2).cell? a := by
  simp only [World.setCell, World.cell?, Array.getElem?_modify]
  simp only [if_true]
  cases hh : w.heap[a.block]? with
  | none => simp
  | some x =>
    cases x <;> simp
    cases a.spot with
    | some _ => simp
    | none => simp
theorem bool_eq_of (a b : Bool) (h : (a == b) = true) : a = b := by simpa using h
theorem bool_ne_of (a b : Bool) (h : (a == b) = false) : a = !b := by cases a <;> cases b <;> simp_all

theorem info5 : (Tryd.prog.info? 5).map (fun i => (i.zero, i.size, i.bytes)) = some (some (.int .u8 0), 1, 1) := by kernel_rfl
-- the values' own types

end Go.Proofs.YtmiemfgcggkbnaaDoor.QT
