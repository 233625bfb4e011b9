/-
  No cell of these rows narrows 'for every input' (looked for: loops, veiled, ifaces, maps, wideKeys, modest, calm, conditions, laid).
  DERIVED. THE GIVEN ROWS OF THIS SEAT. 11 by the template 'for every input the law returns true; each argument reads behind the call as it read before'; 0 by the template 'total and deterministic' (their statements: YtapnkngcnlomhaaTotals.lean).
  GIVEN WITH THE SEED: the statements are not yours to turn. If you find one false, say at which input.
  Laid BY PROGRAM, IN A SANDBOX (cutbox-rows.mjs): the forced cells as the released guide's own fill.sh prints them over the translation 56a4b775c0b6151c… (all of the seat's roots in one cut). By AI agents, Wed Nov 11 2026. No macro, syntax, notation, axiom, sorry.
-/
import Derived.Test.YtapnkngcnlomhaaChecked
import GoSem.Claim
import GoSem.ClaimJoined
import GoSem.ClaimMapViews
import Derived.JoinedTies
import Derived.KernelRfl
namespace Go.Proofs.Ytapnkngcnlomhaa
/- THE CELL 'sum', in the pinned program and in every row, IS THE sha256 OF THE DUMP (.gsa) THAT YtapnkngcnlomhaaProg.lean LOADS. Nothing in Lean hashes anything: it is a label: what it is worth is what the hold of that sum in a sandbox is worth. -/
noncomputable def Try.pinned : Pinned := { name := "ytapnkngcnlomhaa", sum := "56a4b775c0b6151c4032fa2ddac6e900c08240849b54c4c2bac7a78152d8ccaf", checked := Try.checked }
namespace Rows
def none {H : Type} : Left H := { results := [], args := [] }

/-- 'laws.FnCheck': WHATEVER THE INPUT: true; the input reads as it did. -/
def fnCheckSpec : ChangeSpec := { name := "fnCheck", fn := fun _ => fun
  | [d] => { results := [.lit (.bool true)], args := [d] }
  | _ => none }
def fnCheckRow : OpenClaim := { program := "ytapnkngcnlomhaa", sum := "56a4b775c0b6151c4032fa2ddac6e900c08240849b54c4c2bac7a78152d8ccaf", func := "loop.example/pub-g03266/laws.FnCheck", spec := "fnCheck", apart := false }
def FnCheckSaid : Prop := fnCheckRow.holds Try.pinned (OpenSpec.ofChange fnCheckSpec)

/-- ITS FALSE NEIGHBOUR: 'it returns false'. Refute it at one input. -/
def fnCheckWrong : ChangeSpec := { name := "fnCheck", fn := fun _ => fun
  | [d] => { results := [.lit (.bool false)], args := [d] }
  | _ => none }
def FnCheckWrongFalsely : Prop := fnCheckRow.holds Try.pinned (OpenSpec.ofChange fnCheckWrong)

/-- 'laws.FnReadBool': WHATEVER THE INPUT: true; the input reads as it did. -/
def fnReadBoolSpec : ChangeSpec := { name := "fnReadBool", fn := fun _ => fun
  | [d] => { results := [.lit (.bool true)], args := [d] }
  | _ => none }
def fnReadBoolRow : OpenClaim := { program := "ytapnkngcnlomhaa", sum := "56a4b775c0b6151c4032fa2ddac6e900c08240849b54c4c2bac7a78152d8ccaf", func := "loop.example/pub-g03266/laws.FnReadBool", spec := "fnReadBool", apart := false }
def FnReadBoolSaid : Prop := fnReadBoolRow.holds Try.pinned (OpenSpec.ofChange fnReadBoolSpec)

/-- ITS FALSE NEIGHBOUR: 'it returns false'. Refute it at one input. -/
def fnReadBoolWrong : ChangeSpec := { name := "fnReadBool", fn := fun _ => fun
  | [d] => { results := [.lit (.bool false)], args := [d] }
  | _ => none }
def FnReadBoolWrongFalsely : Prop := fnReadBoolRow.holds Try.pinned (OpenSpec.ofChange fnReadBoolWrong)

/-- 'laws.FnReadBits': WHATEVER THE INPUT: true; the input reads as it did. -/
def fnReadBitsSpec : ChangeSpec := { name := "fnReadBits", fn := fun _ => fun
  | [d] => { results := [.lit (.bool true)], args := [d] }
  | _ => none }
def fnReadBitsRow : OpenClaim := { program := "ytapnkngcnlomhaa", sum := "56a4b775c0b6151c4032fa2ddac6e900c08240849b54c4c2bac7a78152d8ccaf", func := "loop.example/pub-g03266/laws.FnReadBits", spec := "fnReadBits", apart := false }
def FnReadBitsSaid : Prop := fnReadBitsRow.holds Try.pinned (OpenSpec.ofChange fnReadBitsSpec)

/-- ITS FALSE NEIGHBOUR: 'it returns false'. Refute it at one input. -/
def fnReadBitsWrong : ChangeSpec := { name := "fnReadBits", fn := fun _ => fun
  | [d] => { results := [.lit (.bool false)], args := [d] }
  | _ => none }
def FnReadBitsWrongFalsely : Prop := fnReadBitsRow.holds Try.pinned (OpenSpec.ofChange fnReadBitsWrong)

/-- 'laws.FnPutBase128': WHATEVER THE INPUT: true; the input reads as it did. -/
def fnPutBase128Spec : ChangeSpec := { name := "fnPutBase128", fn := fun _ => fun
  | [d] => { results := [.lit (.bool true)], args := [d] }
  | _ => none }
def fnPutBase128Row : OpenClaim := { program := "ytapnkngcnlomhaa", sum := "56a4b775c0b6151c4032fa2ddac6e900c08240849b54c4c2bac7a78152d8ccaf", func := "loop.example/pub-g03266/laws.FnPutBase128", spec := "fnPutBase128", apart := false }
def FnPutBase128Said : Prop := fnPutBase128Row.holds Try.pinned (OpenSpec.ofChange fnPutBase128Spec)

/-- ITS FALSE NEIGHBOUR: 'it returns false'. Refute it at one input. -/
def fnPutBase128Wrong : ChangeSpec := { name := "fnPutBase128", fn := fun _ => fun
  | [d] => { results := [.lit (.bool false)], args := [d] }
  | _ => none }
def FnPutBase128WrongFalsely : Prop := fnPutBase128Row.holds Try.pinned (OpenSpec.ofChange fnPutBase128Wrong)

/-- 'laws.FnReadBase128': WHATEVER THE INPUT: true; the input reads as it did. -/
def fnReadBase128Spec : ChangeSpec := { name := "fnReadBase128", fn := fun _ => fun
  | [d1, d2] => { results := [.lit (.bool true)], args := [d1, d2] }
  | _ => none }
def fnReadBase128Row : OpenClaim := { program := "ytapnkngcnlomhaa", sum := "56a4b775c0b6151c4032fa2ddac6e900c08240849b54c4c2bac7a78152d8ccaf", func := "loop.example/pub-g03266/laws.FnReadBase128", spec := "fnReadBase128", apart := false }
def FnReadBase128Said : Prop := fnReadBase128Row.holds Try.pinned (OpenSpec.ofChange fnReadBase128Spec)

/-- ITS FALSE NEIGHBOUR: 'it returns false'. Refute it at one input. -/
def fnReadBase128Wrong : ChangeSpec := { name := "fnReadBase128", fn := fun _ => fun
  | [d1, d2] => { results := [.lit (.bool false)], args := [d1, d2] }
  | _ => none }
def FnReadBase128WrongFalsely : Prop := fnReadBase128Row.holds Try.pinned (OpenSpec.ofChange fnReadBase128Wrong)

/-- 'laws.FnReadInt64': WHATEVER THE INPUT: true; the input reads as it did. -/
def fnReadInt64Spec : ChangeSpec := { name := "fnReadInt64", fn := fun _ => fun
  | [d] => { results := [.lit (.bool true)], args := [d] }
  | _ => none }
def fnReadInt64Row : OpenClaim := { program := "ytapnkngcnlomhaa", sum := "56a4b775c0b6151c4032fa2ddac6e900c08240849b54c4c2bac7a78152d8ccaf", func := "loop.example/pub-g03266/laws.FnReadInt64", spec := "fnReadInt64", apart := false }
def FnReadInt64Said : Prop := fnReadInt64Row.holds Try.pinned (OpenSpec.ofChange fnReadInt64Spec)

/-- ITS FALSE NEIGHBOUR: 'it returns false'. Refute it at one input. -/
def fnReadInt64Wrong : ChangeSpec := { name := "fnReadInt64", fn := fun _ => fun
  | [d] => { results := [.lit (.bool false)], args := [d] }
  | _ => none }
def FnReadInt64WrongFalsely : Prop := fnReadInt64Row.holds Try.pinned (OpenSpec.ofChange fnReadInt64Wrong)

/-- 'laws.FnReadInt32': WHATEVER THE INPUT: true; the input reads as it did. -/
def fnReadInt32Spec : ChangeSpec := { name := "fnReadInt32", fn := fun _ => fun
  | [d] => { results := [.lit (.bool true)], args := [d] }
  | _ => none }
def fnReadInt32Row : OpenClaim := { program := "ytapnkngcnlomhaa", sum := "56a4b775c0b6151c4032fa2ddac6e900c08240849b54c4c2bac7a78152d8ccaf", func := "loop.example/pub-g03266/laws.FnReadInt32", spec := "fnReadInt32", apart := false }
def FnReadInt32Said : Prop := fnReadInt32Row.holds Try.pinned (OpenSpec.ofChange fnReadInt32Spec)

/-- ITS FALSE NEIGHBOUR: 'it returns false'. Refute it at one input. -/
def fnReadInt32Wrong : ChangeSpec := { name := "fnReadInt32", fn := fun _ => fun
  | [d] => { results := [.lit (.bool false)], args := [d] }
  | _ => none }
def FnReadInt32WrongFalsely : Prop := fnReadInt32Row.holds Try.pinned (OpenSpec.ofChange fnReadInt32Wrong)

/-- 'laws.FnPutHeader': WHATEVER THE INPUT: true; the input reads as it did. -/
def fnPutHeaderSpec : ChangeSpec := { name := "fnPutHeader", fn := fun _ => fun
  | [d] => { results := [.lit (.bool true)], args := [d] }
  | _ => none }
def fnPutHeaderRow : OpenClaim := { program := "ytapnkngcnlomhaa", sum := "56a4b775c0b6151c4032fa2ddac6e900c08240849b54c4c2bac7a78152d8ccaf", func := "loop.example/pub-g03266/laws.FnPutHeader", spec := "fnPutHeader", apart := false }
def FnPutHeaderSaid : Prop := fnPutHeaderRow.holds Try.pinned (OpenSpec.ofChange fnPutHeaderSpec)

/-- ITS FALSE NEIGHBOUR: 'it returns false'. Refute it at one input. -/
def fnPutHeaderWrong : ChangeSpec := { name := "fnPutHeader", fn := fun _ => fun
  | [d] => { results := [.lit (.bool false)], args := [d] }
  | _ => none }
def FnPutHeaderWrongFalsely : Prop := fnPutHeaderRow.holds Try.pinned (OpenSpec.ofChange fnPutHeaderWrong)

/-- 'laws.FnReadOID': WHATEVER THE INPUT: true; the input reads as it did. -/
def fnReadOIDSpec : ChangeSpec := { name := "fnReadOID", fn := fun _ => fun
  | [d] => { results := [.lit (.bool true)], args := [d] }
  | _ => none }
def fnReadOIDRow : OpenClaim := { program := "ytapnkngcnlomhaa", sum := "56a4b775c0b6151c4032fa2ddac6e900c08240849b54c4c2bac7a78152d8ccaf", func := "loop.example/pub-g03266/laws.FnReadOID", spec := "fnReadOID", apart := false }
def FnReadOIDSaid : Prop := fnReadOIDRow.holds Try.pinned (OpenSpec.ofChange fnReadOIDSpec)

/-- ITS FALSE NEIGHBOUR: 'it returns false'. Refute it at one input. -/
def fnReadOIDWrong : ChangeSpec := { name := "fnReadOID", fn := fun _ => fun
  | [d] => { results := [.lit (.bool false)], args := [d] }
  | _ => none }
def FnReadOIDWrongFalsely : Prop := fnReadOIDRow.holds Try.pinned (OpenSpec.ofChange fnReadOIDWrong)

/-- 'laws.FnReadHeader': WHATEVER THE INPUT: true; the input reads as it did. -/
def fnReadHeaderSpec : ChangeSpec := { name := "fnReadHeader", fn := fun _ => fun
  | [d1, d2] => { results := [.lit (.bool true)], args := [d1, d2] }
  | _ => none }
def fnReadHeaderRow : OpenClaim := { program := "ytapnkngcnlomhaa", sum := "56a4b775c0b6151c4032fa2ddac6e900c08240849b54c4c2bac7a78152d8ccaf", func := "loop.example/pub-g03266/laws.FnReadHeader", spec := "fnReadHeader", apart := false }
def FnReadHeaderSaid : Prop := fnReadHeaderRow.holds Try.pinned (OpenSpec.ofChange fnReadHeaderSpec)

/-- ITS FALSE NEIGHBOUR: 'it returns false'. Refute it at one input. -/
def fnReadHeaderWrong : ChangeSpec := { name := "fnReadHeader", fn := fun _ => fun
  | [d1, d2] => { results := [.lit (.bool false)], args := [d1, d2] }
  | _ => none }
def FnReadHeaderWrongFalsely : Prop := fnReadHeaderRow.holds Try.pinned (OpenSpec.ofChange fnReadHeaderWrong)

/-- 'laws.FnHeaderBack': WHATEVER THE INPUT: true; the input reads as it did. -/
def fnHeaderBackSpec : ChangeSpec := { name := "fnHeaderBack", fn := fun _ => fun
  | [d1, d2] => { results := [.lit (.bool true)], args := [d1, d2] }
  | _ => none }
def fnHeaderBackRow : OpenClaim := { program := "ytapnkngcnlomhaa", sum := "56a4b775c0b6151c4032fa2ddac6e900c08240849b54c4c2bac7a78152d8ccaf", func := "loop.example/pub-g03266/laws.FnHeaderBack", spec := "fnHeaderBack", apart := false }
def FnHeaderBackSaid : Prop := fnHeaderBackRow.holds Try.pinned (OpenSpec.ofChange fnHeaderBackSpec)

/-- ITS FALSE NEIGHBOUR: 'it returns false'. Refute it at one input. -/
def fnHeaderBackWrong : ChangeSpec := { name := "fnHeaderBack", fn := fun _ => fun
  | [d1, d2] => { results := [.lit (.bool false)], args := [d1, d2] }
  | _ => none }
def FnHeaderBackWrongFalsely : Prop := fnHeaderBackRow.holds Try.pinned (OpenSpec.ofChange fnHeaderBackWrong)

/- THE SECOND FORM. 'bulk': how many values and letters a reading holds, each counted each time it is reached (what is shared counts as often as it is met; a slice's spare places count too). A statement '..UptoSaid' is the law's where the arguments, and the package variables that the reading takes, are together of bulk at most 1048576: NARROWER than '..Said'. Prove '..Said' where nothing that the law and all that it calls make is longer than what came in: it says more and counts as full. Else prove '..UptoSaid'. A law counts once. -/
mutual
def uptoBulk {H : Type} : DataW H → Nat
  | .lit (.string bytes) => bytes.length + 1
  | .lit _ => 1
  | .nil => 1
  | .ptr d => uptoBulk d + 1
  | .slice elems spare => uptoBulkAll elems + uptoBulkAll spare + 1
  | .agg parts => uptoBulkAll parts + 1
  | .iface _ d => uptoBulk d + 1
  | .map entries => uptoBulkEntries entries + 1
  | .held _ => 1
def uptoBulkAll {H : Type} : List (DataW H) → Nat
  | [] => 0
  | d :: r => uptoBulk d + uptoBulkAll r
def uptoBulkEntries {H : Type} : List (Lit × DataW H) → Nat
  | [] => 0
  | x :: r => uptoBulkEntry x + uptoBulkEntries r
def uptoBulkEntry {H : Type} : Lit × DataW H → Nat
  | (.string bytes, d) => bytes.length + uptoBulk d + 1
  | (_, d) => uptoBulk d + 1
 end
def uptoSmall : (H : Type) → List (DataW H) → Bool := fun _ ds => decide (uptoBulkAll ds ≤ 1048576)
def OpenSpec.upto (s : _root_.Go.ChangeSpec) : _root_.Go.OpenSpec := { _root_.Go.OpenSpec.ofChange s with cond := some uptoSmall }

/-- 'laws.FnCheck', WHERE WHAT IT READS IS OF BULK AT MOST 1048576: true; the input reads as it did. -/
def fnCheckUptoRow : OpenClaim := { program := "ytapnkngcnlomhaa", sum := "56a4b775c0b6151c4032fa2ddac6e900c08240849b54c4c2bac7a78152d8ccaf", func := "loop.example/pub-g03266/laws.FnCheck", spec := "fnCheck", apart := false, narrowed := true }
def FnCheckUptoSaid : Prop := fnCheckUptoRow.holds Try.pinned (OpenSpec.upto fnCheckSpec)

/-- 'laws.FnReadBool', WHERE WHAT IT READS IS OF BULK AT MOST 1048576: true; the input reads as it did. -/
def fnReadBoolUptoRow : OpenClaim := { program := "ytapnkngcnlomhaa", sum := "56a4b775c0b6151c4032fa2ddac6e900c08240849b54c4c2bac7a78152d8ccaf", func := "loop.example/pub-g03266/laws.FnReadBool", spec := "fnReadBool", apart := false, narrowed := true }
def FnReadBoolUptoSaid : Prop := fnReadBoolUptoRow.holds Try.pinned (OpenSpec.upto fnReadBoolSpec)

/-- 'laws.FnReadBits', WHERE WHAT IT READS IS OF BULK AT MOST 1048576: true; the input reads as it did. -/
def fnReadBitsUptoRow : OpenClaim := { program := "ytapnkngcnlomhaa", sum := "56a4b775c0b6151c4032fa2ddac6e900c08240849b54c4c2bac7a78152d8ccaf", func := "loop.example/pub-g03266/laws.FnReadBits", spec := "fnReadBits", apart := false, narrowed := true }
def FnReadBitsUptoSaid : Prop := fnReadBitsUptoRow.holds Try.pinned (OpenSpec.upto fnReadBitsSpec)

/-- 'laws.FnPutBase128', WHERE WHAT IT READS IS OF BULK AT MOST 1048576: true; the input reads as it did. -/
def fnPutBase128UptoRow : OpenClaim := { program := "ytapnkngcnlomhaa", sum := "56a4b775c0b6151c4032fa2ddac6e900c08240849b54c4c2bac7a78152d8ccaf", func := "loop.example/pub-g03266/laws.FnPutBase128", spec := "fnPutBase128", apart := false, narrowed := true }
def FnPutBase128UptoSaid : Prop := fnPutBase128UptoRow.holds Try.pinned (OpenSpec.upto fnPutBase128Spec)

/-- 'laws.FnReadBase128', WHERE WHAT IT READS IS OF BULK AT MOST 1048576: true; the input reads as it did. -/
def fnReadBase128UptoRow : OpenClaim := { program := "ytapnkngcnlomhaa", sum := "56a4b775c0b6151c4032fa2ddac6e900c08240849b54c4c2bac7a78152d8ccaf", func := "loop.example/pub-g03266/laws.FnReadBase128", spec := "fnReadBase128", apart := false, narrowed := true }
def FnReadBase128UptoSaid : Prop := fnReadBase128UptoRow.holds Try.pinned (OpenSpec.upto fnReadBase128Spec)

/-- 'laws.FnReadInt64', WHERE WHAT IT READS IS OF BULK AT MOST 1048576: true; the input reads as it did. -/
def fnReadInt64UptoRow : OpenClaim := { program := "ytapnkngcnlomhaa", sum := "56a4b775c0b6151c4032fa2ddac6e900c08240849b54c4c2bac7a78152d8ccaf", func := "loop.example/pub-g03266/laws.FnReadInt64", spec := "fnReadInt64", apart := false, narrowed := true }
def FnReadInt64UptoSaid : Prop := fnReadInt64UptoRow.holds Try.pinned (OpenSpec.upto fnReadInt64Spec)

/-- 'laws.FnReadInt32', WHERE WHAT IT READS IS OF BULK AT MOST 1048576: true; the input reads as it did. -/
def fnReadInt32UptoRow : OpenClaim := { program := "ytapnkngcnlomhaa", sum := "56a4b775c0b6151c4032fa2ddac6e900c08240849b54c4c2bac7a78152d8ccaf", func := "loop.example/pub-g03266/laws.FnReadInt32", spec := "fnReadInt32", apart := false, narrowed := true }
def FnReadInt32UptoSaid : Prop := fnReadInt32UptoRow.holds Try.pinned (OpenSpec.upto fnReadInt32Spec)

/-- 'laws.FnPutHeader', WHERE WHAT IT READS IS OF BULK AT MOST 1048576: true; the input reads as it did. -/
def fnPutHeaderUptoRow : OpenClaim := { program := "ytapnkngcnlomhaa", sum := "56a4b775c0b6151c4032fa2ddac6e900c08240849b54c4c2bac7a78152d8ccaf", func := "loop.example/pub-g03266/laws.FnPutHeader", spec := "fnPutHeader", apart := false, narrowed := true }
def FnPutHeaderUptoSaid : Prop := fnPutHeaderUptoRow.holds Try.pinned (OpenSpec.upto fnPutHeaderSpec)

/-- 'laws.FnReadOID', WHERE WHAT IT READS IS OF BULK AT MOST 1048576: true; the input reads as it did. -/
def fnReadOIDUptoRow : OpenClaim := { program := "ytapnkngcnlomhaa", sum := "56a4b775c0b6151c4032fa2ddac6e900c08240849b54c4c2bac7a78152d8ccaf", func := "loop.example/pub-g03266/laws.FnReadOID", spec := "fnReadOID", apart := false, narrowed := true }
def FnReadOIDUptoSaid : Prop := fnReadOIDUptoRow.holds Try.pinned (OpenSpec.upto fnReadOIDSpec)

/-- 'laws.FnReadHeader', WHERE WHAT IT READS IS OF BULK AT MOST 1048576: true; the input reads as it did. -/
def fnReadHeaderUptoRow : OpenClaim := { program := "ytapnkngcnlomhaa", sum := "56a4b775c0b6151c4032fa2ddac6e900c08240849b54c4c2bac7a78152d8ccaf", func := "loop.example/pub-g03266/laws.FnReadHeader", spec := "fnReadHeader", apart := false, narrowed := true }
def FnReadHeaderUptoSaid : Prop := fnReadHeaderUptoRow.holds Try.pinned (OpenSpec.upto fnReadHeaderSpec)

/-- 'laws.FnHeaderBack', WHERE WHAT IT READS IS OF BULK AT MOST 1048576: true; the input reads as it did. -/
def fnHeaderBackUptoRow : OpenClaim := { program := "ytapnkngcnlomhaa", sum := "56a4b775c0b6151c4032fa2ddac6e900c08240849b54c4c2bac7a78152d8ccaf", func := "loop.example/pub-g03266/laws.FnHeaderBack", spec := "fnHeaderBack", apart := false, narrowed := true }
def FnHeaderBackUptoSaid : Prop := fnHeaderBackUptoRow.holds Try.pinned (OpenSpec.upto fnHeaderBackSpec)

end Rows
end Go.Proofs.Ytapnkngcnlomhaa
