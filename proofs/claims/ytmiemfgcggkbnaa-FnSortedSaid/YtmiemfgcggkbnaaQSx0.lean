-- Written by a program of this work (wip/patch_print.py) for this claim.
import Derived.Test.YtmiemfgcggkbnaaProg
import Derived.Below
import Derived.Deep.Draws
import Derived.Deep.AppendLies
import Derived.Maps.AppendAt
import Derived.OwnWalk
import Derived.Laws.BytesArg
import Derived.Laws.MakeOwn
import Derived.Laws.OwnMore
import Derived.Deep.OwnRows
import Derived.Tactics
import Derived.Lib.ConvBytes
import Derived.Laws.Slices
import Derived.WalkKit
import Derived.KernelRfl
import Derived.RowKit3
import Derived.Deep.LoopGhost
import Derived.Deep.QuietTactic
import Derived.BigQuiet
import Derived.WideLaws
import Derived.Deep.DeepCutAuto
import Derived.Deep.CutBlock
import Derived.Deep.RegionHeld3
import Derived.Laws.Rows
import Derived.Lib.AppendStr
import Derived.ArgAppend
import Derived.Laws.IdiomCopy
import Derived.OrdersHeld
import Derived.Laws.BitsLemmas
import Derived.RowKit
import Derived.WalkSpells
import Derived.Laws.CopyOwn
import Derived.Deep.RegionLaw
import Derived.RegionTactic
import Derived.Test.YtmiemfgcggkbnaaWWords
import Derived.Test.YtmiemfgcggkbnaaWLast
import Derived.Test.YtmiemfgcggkbnaaWTab
import Derived.Test.YtmiemfgcggkbnaaWFour
import Derived.Test.YtmiemfgcggkbnaaWQPut
import Derived.Test.YtmiemfgcggkbnaaWApart
import Derived.Test.YtmiemfgcggkbnaaWArr
import Derived.Test.YtmiemfgcggkbnaaWZeros
import Derived.Test.YtmiemfgcggkbnaaWFoot
import Derived.Test.YtmiemfgcggkbnaaWKept
import Derived.Test.YtmiemfgcggkbnaaWShare
import Derived.Test.YtmiemfgcggkbnaaWN
import Derived.Test.YtmiemfgcggkbnaaWFootNe
import Derived.Test.YtmiemfgcggkbnaaWAt
import Derived.Test.YtmiemfgcggkbnaaWEqStruct
import Derived.Test.YtmiemfgcggkbnaaWRepsOne
import Derived.Test.YtmiemfgcggkbnaaWInv
import Derived.Test.YtmiemfgcggkbnaaWInvWords
import Derived.Test.YtmiemfgcggkbnaaWGuard
import Derived.Test.YtmiemfgcggkbnaaWNEv
import Derived.Test.YtmiemfgcggkbnaaWMore
namespace Go.Proofs.Ytmiemfgcggkbnaa.QS
open Go.RowKit Go.Proofs.YtmiemfgcggkbnaaW.PrintWords Go.Proofs.YtmiemfgcggkbnaaW.PrintLast Go.Proofs.YtmiemfgcggkbnaaW.PrintMore
attribute [local go_sem] max2_int min2_int max_two min_two max_three min_three max_four min_four   -- for this text's walks alone
set_option linter.unusedVariables false
set_option linter.unusedSimpArgs false



def errT (c : Int) : TypeId :=
  match c.toNat with
  | _ => 0
def errX (c : Int) : Value :=
  match c.toNat with
  | _ => .nilIface
def errW : Option Int → Value
  | none => .nilIface
  | some c => .iface (errT c) (errX c)
theorem errW_none : errW none = .nilIface := rfl
theorem errW_some (c : Int) : errW (some c) = .iface (errT c) (errX c) := rfl
@[go_sem] theorem setCell_drewN_ (w : World) (n : Nat) (a : Addr) (v : Value) : (w.drewN n).setCell a v = (w.setCell a v).drewN n := (rfl)
@[go_sem] theorem slice_zero_ (P : Program) (t : TypeId) (A : Option Addr) (n c : Nat) (hi : Option Value) (W : World) : (Instr.slice t (.slice A n c) (some (.int .i64 0)) hi none).run P W = (Instr.slice t (.slice A n c) none hi none).run P W := (rfl)
@[go_sem] theorem cell_set_twice_ (w : World) (a : Addr) (v v2 : Value) : ((w.setCell a v).setCell a v2).cell? a = (w.setCell a v2).cell? a := by
  simp only [World.setCell, World.cell?, Array.getElem?_modify]
  simp only [if_true]
  cases hh : w.heap[a.block]? with
  | none => simp
  | some x =>
    cases x <;> simp
    cases a.spot with
    | some _ => simp
    | none => simp
theorem bool_eq_of (a b : Bool) (h : (a == b) = true) : a = b := by simpa using h
theorem bool_ne_of (a b : Bool) (h : (a == b) = false) : a = !b := by cases a <;> cases b <;> simp_all

theorem info5 : (Try.prog.info? 5).map (fun i => (i.zero, i.size, i.bytes)) = some (some (.int .u8 0), 1, 1) := by kernel_rfl
-- the values' own types
def rd_L1 (xs : List (List Int)) (i : Int) : (List Int) := xs.getD i.toNat ([] : List Int)
theorem at_L1 {w : World} {A : Option Addr} {n : Nat} {xs : List (List Int)} (h : Kd.C (Kd.slice 5 (Kd.int .u8)) w A n xs) (i : Int) (h0 : 0 ≤ i) (h1 : i < n) : ∃ ad A0 c0, A = some ad ∧ w.cell? (ad.add i.toNat) = some (.slice A0 (rd_L1 xs i).length c0) ∧ (rd_L1 xs i).length ≤ c0 ∧ (Kd.int .u8).C w A0 (rd_L1 xs i).length (rd_L1 xs i) := by
  obtain ⟨ad, c, e, _, hK, hc0⟩ := Kd.C_get h ([] : List Int) i h0 h1
  have hc : ∀ j u, c[j]? = some u → w.cell? (ad.add (i.toNat * 1 + j)) = some u := hc0
  obtain ⟨A0, c0, rfl, l0, g0⟩ := hK
  exact ⟨ad, A0, c0, e, by have hq := hc 0 _ rfl; rwa [Nat.mul_one, Nat.add_zero] at hq, l0, g0⟩

end Go.Proofs.Ytmiemfgcggkbnaa.QS
