/-
  No cell of these rows narrows 'for every input' (looked for: loops, veiled, ifaces, maps, wideKeys, modest, calm, conditions, laid).
  DERIVED. THE GIVEN ROWS OF THIS SEAT. 9 by the template 'for every input the law returns true; each argument reads behind the call as it read before'; 0 by the template 'total and deterministic' (their statements: YtmiemfgcggkbnaaTotals.lean).
  GIVEN WITH THE SEED: the statements are not yours to turn. If you find one false, say at which input.
  Laid BY PROGRAM, IN A SANDBOX (cutbox-rows.mjs): the forced cells as the released guide's own fill.sh prints them over the translation 8e2c69810a5aa362… (all of the seat's roots in one cut). By AI agents, Wed Nov 11 2026. No macro, syntax, notation, axiom, sorry.
-/
import Derived.Test.YtmiemfgcggkbnaaChecked
import GoSem.Claim
import GoSem.ClaimJoined
import GoSem.ClaimMapViews
import Derived.JoinedTies
import Derived.KernelRfl
namespace Go.Proofs.Ytmiemfgcggkbnaa
/- THE CELL 'sum', in the pinned program and in every row, IS THE sha256 OF THE DUMP (.gsa) THAT YtmiemfgcggkbnaaProg.lean LOADS. Nothing in Lean hashes anything: it is a label: what it is worth is what the hold of that sum in a sandbox is worth. -/
noncomputable def Try.pinned : Pinned := { name := "ytmiemfgcggkbnaa", sum := "8e2c69810a5aa362f406488bfd65bde15bc412c91490e0ab788f2bddf4597605", checked := Try.checked }
namespace Rows
def none {H : Type} : Left H := { results := [], args := [] }

/-- 'laws.FnSorted': WHATEVER THE INPUT: true; the input reads as it did. -/
def fnSortedSpec : ChangeSpec := { name := "fnSorted", fn := fun _ => fun
  | [d] => { results := [.lit (.bool true)], args := [d] }
  | _ => none }
def fnSortedRow : OpenClaim := { program := "ytmiemfgcggkbnaa", sum := "8e2c69810a5aa362f406488bfd65bde15bc412c91490e0ab788f2bddf4597605", func := "loop.example/pub-g03266/laws.FnSorted", spec := "fnSorted", inPlace := ["internal/bytealg.Compare"], unfollowed := true, recurses := true, apart := false }
def FnSortedSaid : Prop := fnSortedRow.holds Try.pinned (OpenSpec.ofChange fnSortedSpec)

/-- ITS FALSE NEIGHBOUR: 'it returns false'. Refute it at one input. -/
def fnSortedWrong : ChangeSpec := { name := "fnSorted", fn := fun _ => fun
  | [d] => { results := [.lit (.bool false)], args := [d] }
  | _ => none }
def FnSortedWrongFalsely : Prop := fnSortedRow.holds Try.pinned (OpenSpec.ofChange fnSortedWrong)

/-- 'laws.FnPutOID': WHATEVER THE INPUT: true; the input reads as it did. -/
def fnPutOIDSpec : ChangeSpec := { name := "fnPutOID", fn := fun _ => fun
  | [d] => { results := [.lit (.bool true)], args := [d] }
  | _ => none }
def fnPutOIDRow : OpenClaim := { program := "ytmiemfgcggkbnaa", sum := "8e2c69810a5aa362f406488bfd65bde15bc412c91490e0ab788f2bddf4597605", func := "loop.example/pub-g03266/laws.FnPutOID", spec := "fnPutOID", unfollowed := true, recurses := true, apart := false }
def FnPutOIDSaid : Prop := fnPutOIDRow.holds Try.pinned (OpenSpec.ofChange fnPutOIDSpec)

/-- ITS FALSE NEIGHBOUR: 'it returns false'. Refute it at one input. -/
def fnPutOIDWrong : ChangeSpec := { name := "fnPutOID", fn := fun _ => fun
  | [d] => { results := [.lit (.bool false)], args := [d] }
  | _ => none }
def FnPutOIDWrongFalsely : Prop := fnPutOIDRow.holds Try.pinned (OpenSpec.ofChange fnPutOIDWrong)

/-- 'laws.FnReadUTC': WHATEVER THE INPUT: true; the input reads as it did. -/
def fnReadUTCSpec : ChangeSpec := { name := "fnReadUTC", fn := fun _ => fun
  | [d] => { results := [.lit (.bool true)], args := [d] }
  | _ => none }
def fnReadUTCRow : OpenClaim := { program := "ytmiemfgcggkbnaa", sum := "8e2c69810a5aa362f406488bfd65bde15bc412c91490e0ab788f2bddf4597605", func := "loop.example/pub-g03266/laws.FnReadUTC", spec := "fnReadUTC", apart := false }
def FnReadUTCSaid : Prop := fnReadUTCRow.holds Try.pinned (OpenSpec.ofChange fnReadUTCSpec)

/-- ITS FALSE NEIGHBOUR: 'it returns false'. Refute it at one input. -/
def fnReadUTCWrong : ChangeSpec := { name := "fnReadUTC", fn := fun _ => fun
  | [d] => { results := [.lit (.bool false)], args := [d] }
  | _ => none }
def FnReadUTCWrongFalsely : Prop := fnReadUTCRow.holds Try.pinned (OpenSpec.ofChange fnReadUTCWrong)

/-- 'laws.FnReadGeneralized': WHATEVER THE INPUT: true; the input reads as it did. -/
def fnReadGeneralizedSpec : ChangeSpec := { name := "fnReadGeneralized", fn := fun _ => fun
  | [d] => { results := [.lit (.bool true)], args := [d] }
  | _ => none }
def fnReadGeneralizedRow : OpenClaim := { program := "ytmiemfgcggkbnaa", sum := "8e2c69810a5aa362f406488bfd65bde15bc412c91490e0ab788f2bddf4597605", func := "loop.example/pub-g03266/laws.FnReadGeneralized", spec := "fnReadGeneralized", apart := false }
def FnReadGeneralizedSaid : Prop := fnReadGeneralizedRow.holds Try.pinned (OpenSpec.ofChange fnReadGeneralizedSpec)

/-- ITS FALSE NEIGHBOUR: 'it returns false'. Refute it at one input. -/
def fnReadGeneralizedWrong : ChangeSpec := { name := "fnReadGeneralized", fn := fun _ => fun
  | [d] => { results := [.lit (.bool false)], args := [d] }
  | _ => none }
def FnReadGeneralizedWrongFalsely : Prop := fnReadGeneralizedRow.holds Try.pinned (OpenSpec.ofChange fnReadGeneralizedWrong)

/-- 'laws.FnPutUTC': WHATEVER THE INPUT: true; the input reads as it did. -/
def fnPutUTCSpec : ChangeSpec := { name := "fnPutUTC", fn := fun _ => fun
  | [d] => { results := [.lit (.bool true)], args := [d] }
  | _ => none }
def fnPutUTCRow : OpenClaim := { program := "ytmiemfgcggkbnaa", sum := "8e2c69810a5aa362f406488bfd65bde15bc412c91490e0ab788f2bddf4597605", func := "loop.example/pub-g03266/laws.FnPutUTC", spec := "fnPutUTC", apart := false }
def FnPutUTCSaid : Prop := fnPutUTCRow.holds Try.pinned (OpenSpec.ofChange fnPutUTCSpec)

/-- ITS FALSE NEIGHBOUR: 'it returns false'. Refute it at one input. -/
def fnPutUTCWrong : ChangeSpec := { name := "fnPutUTC", fn := fun _ => fun
  | [d] => { results := [.lit (.bool false)], args := [d] }
  | _ => none }
def FnPutUTCWrongFalsely : Prop := fnPutUTCRow.holds Try.pinned (OpenSpec.ofChange fnPutUTCWrong)

/-- 'laws.FnPutGeneralized': WHATEVER THE INPUT: true; the input reads as it did. -/
def fnPutGeneralizedSpec : ChangeSpec := { name := "fnPutGeneralized", fn := fun _ => fun
  | [d] => { results := [.lit (.bool true)], args := [d] }
  | _ => none }
def fnPutGeneralizedRow : OpenClaim := { program := "ytmiemfgcggkbnaa", sum := "8e2c69810a5aa362f406488bfd65bde15bc412c91490e0ab788f2bddf4597605", func := "loop.example/pub-g03266/laws.FnPutGeneralized", spec := "fnPutGeneralized", apart := false }
def FnPutGeneralizedSaid : Prop := fnPutGeneralizedRow.holds Try.pinned (OpenSpec.ofChange fnPutGeneralizedSpec)

/-- ITS FALSE NEIGHBOUR: 'it returns false'. Refute it at one input. -/
def fnPutGeneralizedWrong : ChangeSpec := { name := "fnPutGeneralized", fn := fun _ => fun
  | [d] => { results := [.lit (.bool false)], args := [d] }
  | _ => none }
def FnPutGeneralizedWrongFalsely : Prop := fnPutGeneralizedRow.holds Try.pinned (OpenSpec.ofChange fnPutGeneralizedWrong)

/-- 'laws.FnShortOID': WHATEVER THE INPUT: true; the input reads as it did. -/
def fnShortOIDSpec : ChangeSpec := { name := "fnShortOID", fn := fun _ => fun
  | [d] => { results := [.lit (.bool true)], args := [d] }
  | _ => none }
def fnShortOIDRow : OpenClaim := { program := "ytmiemfgcggkbnaa", sum := "8e2c69810a5aa362f406488bfd65bde15bc412c91490e0ab788f2bddf4597605", func := "loop.example/pub-g03266/laws.FnShortOID", spec := "fnShortOID", unfollowed := true, recurses := true, apart := false }
def FnShortOIDSaid : Prop := fnShortOIDRow.holds Try.pinned (OpenSpec.ofChange fnShortOIDSpec)

/-- ITS FALSE NEIGHBOUR: 'it returns false'. Refute it at one input. -/
def fnShortOIDWrong : ChangeSpec := { name := "fnShortOID", fn := fun _ => fun
  | [d] => { results := [.lit (.bool false)], args := [d] }
  | _ => none }
def FnShortOIDWrongFalsely : Prop := fnShortOIDRow.holds Try.pinned (OpenSpec.ofChange fnShortOIDWrong)

/-- 'laws.FnPutBits': WHATEVER THE INPUT: true; the input reads as it did. -/
def fnPutBitsSpec : ChangeSpec := { name := "fnPutBits", fn := fun _ => fun
  | [d1, d2] => { results := [.lit (.bool true)], args := [d1, d2] }
  | _ => none }
def fnPutBitsRow : OpenClaim := { program := "ytmiemfgcggkbnaa", sum := "8e2c69810a5aa362f406488bfd65bde15bc412c91490e0ab788f2bddf4597605", func := "loop.example/pub-g03266/laws.FnPutBits", spec := "fnPutBits", unfollowed := true, recurses := true, apart := false }
def FnPutBitsSaid : Prop := fnPutBitsRow.holds Try.pinned (OpenSpec.ofChange fnPutBitsSpec)

/-- ITS FALSE NEIGHBOUR: 'it returns false'. Refute it at one input. -/
def fnPutBitsWrong : ChangeSpec := { name := "fnPutBits", fn := fun _ => fun
  | [d1, d2] => { results := [.lit (.bool false)], args := [d1, d2] }
  | _ => none }
def FnPutBitsWrongFalsely : Prop := fnPutBitsRow.holds Try.pinned (OpenSpec.ofChange fnPutBitsWrong)

/-- 'laws.FnPutInt64': WHATEVER THE INPUT: true; the input reads as it did. -/
def fnPutInt64Spec : ChangeSpec := { name := "fnPutInt64", fn := fun _ => fun
  | [d] => { results := [.lit (.bool true)], args := [d] }
  | _ => none }
def fnPutInt64Row : OpenClaim := { program := "ytmiemfgcggkbnaa", sum := "8e2c69810a5aa362f406488bfd65bde15bc412c91490e0ab788f2bddf4597605", func := "loop.example/pub-g03266/laws.FnPutInt64", spec := "fnPutInt64", unfollowed := true, recurses := true, apart := false }
def FnPutInt64Said : Prop := fnPutInt64Row.holds Try.pinned (OpenSpec.ofChange fnPutInt64Spec)

/-- ITS FALSE NEIGHBOUR: 'it returns false'. Refute it at one input. -/
def fnPutInt64Wrong : ChangeSpec := { name := "fnPutInt64", fn := fun _ => fun
  | [d] => { results := [.lit (.bool false)], args := [d] }
  | _ => none }
def FnPutInt64WrongFalsely : Prop := fnPutInt64Row.holds Try.pinned (OpenSpec.ofChange fnPutInt64Wrong)

/- THE SECOND FORM. 'bulk': how many values and letters a reading holds, each counted each time it is reached (what is shared counts as often as it is met; a slice's spare places count too). A statement '..UptoSaid' is the law's where the arguments, and the package variables that the reading takes, are together of bulk at most 1048576: NARROWER than '..Said'. Prove '..Said' where nothing that the law and all that it calls make is longer than what came in: it says more and counts as full. Else prove '..UptoSaid'. A law counts once. -/
mutual
def uptoBulk {H : Type} : DataW H → Nat
  | .lit (.string bytes) => bytes.length + 1
  | .lit _ => 1
  | .nil => 1
  | .ptr d => uptoBulk d + 1
  | .slice elems spare => uptoBulkAll elems + uptoBulkAll spare + 1
  | .agg parts => uptoBulkAll parts + 1
  | .iface _ d => uptoBulk d + 1
  | .map entries => uptoBulkEntries entries + 1
  | .held _ => 1
def uptoBulkAll {H : Type} : List (DataW H) → Nat
  | [] => 0
  | d :: r => uptoBulk d + uptoBulkAll r
def uptoBulkEntries {H : Type} : List (Lit × DataW H) → Nat
  | [] => 0
  | x :: r => uptoBulkEntry x + uptoBulkEntries r
def uptoBulkEntry {H : Type} : Lit × DataW H → Nat
  | (.string bytes, d) => bytes.length + uptoBulk d + 1
  | (_, d) => uptoBulk d + 1
 end
def uptoSmall : (H : Type) → List (DataW H) → Bool := fun _ ds => decide (uptoBulkAll ds ≤ 1048576)
def OpenSpec.upto (s : _root_.Go.ChangeSpec) : _root_.Go.OpenSpec := { _root_.Go.OpenSpec.ofChange s with cond := some uptoSmall }

/-- 'laws.FnSorted', WHERE WHAT IT READS IS OF BULK AT MOST 1048576: true; the input reads as it did. -/
def fnSortedUptoRow : OpenClaim := { program := "ytmiemfgcggkbnaa", sum := "8e2c69810a5aa362f406488bfd65bde15bc412c91490e0ab788f2bddf4597605", func := "loop.example/pub-g03266/laws.FnSorted", spec := "fnSorted", inPlace := ["internal/bytealg.Compare"], unfollowed := true, recurses := true, apart := false, narrowed := true }
def FnSortedUptoSaid : Prop := fnSortedUptoRow.holds Try.pinned (OpenSpec.upto fnSortedSpec)

/-- 'laws.FnPutOID', WHERE WHAT IT READS IS OF BULK AT MOST 1048576: true; the input reads as it did. -/
def fnPutOIDUptoRow : OpenClaim := { program := "ytmiemfgcggkbnaa", sum := "8e2c69810a5aa362f406488bfd65bde15bc412c91490e0ab788f2bddf4597605", func := "loop.example/pub-g03266/laws.FnPutOID", spec := "fnPutOID", unfollowed := true, recurses := true, apart := false, narrowed := true }
def FnPutOIDUptoSaid : Prop := fnPutOIDUptoRow.holds Try.pinned (OpenSpec.upto fnPutOIDSpec)

/-- 'laws.FnReadUTC', WHERE WHAT IT READS IS OF BULK AT MOST 1048576: true; the input reads as it did. -/
def fnReadUTCUptoRow : OpenClaim := { program := "ytmiemfgcggkbnaa", sum := "8e2c69810a5aa362f406488bfd65bde15bc412c91490e0ab788f2bddf4597605", func := "loop.example/pub-g03266/laws.FnReadUTC", spec := "fnReadUTC", apart := false, narrowed := true }
def FnReadUTCUptoSaid : Prop := fnReadUTCUptoRow.holds Try.pinned (OpenSpec.upto fnReadUTCSpec)

/-- 'laws.FnReadGeneralized', WHERE WHAT IT READS IS OF BULK AT MOST 1048576: true; the input reads as it did. -/
def fnReadGeneralizedUptoRow : OpenClaim := { program := "ytmiemfgcggkbnaa", sum := "8e2c69810a5aa362f406488bfd65bde15bc412c91490e0ab788f2bddf4597605", func := "loop.example/pub-g03266/laws.FnReadGeneralized", spec := "fnReadGeneralized", apart := false, narrowed := true }
def FnReadGeneralizedUptoSaid : Prop := fnReadGeneralizedUptoRow.holds Try.pinned (OpenSpec.upto fnReadGeneralizedSpec)

/-- 'laws.FnPutUTC', WHERE WHAT IT READS IS OF BULK AT MOST 1048576: true; the input reads as it did. -/
def fnPutUTCUptoRow : OpenClaim := { program := "ytmiemfgcggkbnaa", sum := "8e2c69810a5aa362f406488bfd65bde15bc412c91490e0ab788f2bddf4597605", func := "loop.example/pub-g03266/laws.FnPutUTC", spec := "fnPutUTC", apart := false, narrowed := true }
def FnPutUTCUptoSaid : Prop := fnPutUTCUptoRow.holds Try.pinned (OpenSpec.upto fnPutUTCSpec)

/-- 'laws.FnPutGeneralized', WHERE WHAT IT READS IS OF BULK AT MOST 1048576: true; the input reads as it did. -/
def fnPutGeneralizedUptoRow : OpenClaim := { program := "ytmiemfgcggkbnaa", sum := "8e2c69810a5aa362f406488bfd65bde15bc412c91490e0ab788f2bddf4597605", func := "loop.example/pub-g03266/laws.FnPutGeneralized", spec := "fnPutGeneralized", apart := false, narrowed := true }
def FnPutGeneralizedUptoSaid : Prop := fnPutGeneralizedUptoRow.holds Try.pinned (OpenSpec.upto fnPutGeneralizedSpec)

/-- 'laws.FnShortOID', WHERE WHAT IT READS IS OF BULK AT MOST 1048576: true; the input reads as it did. -/
def fnShortOIDUptoRow : OpenClaim := { program := "ytmiemfgcggkbnaa", sum := "8e2c69810a5aa362f406488bfd65bde15bc412c91490e0ab788f2bddf4597605", func := "loop.example/pub-g03266/laws.FnShortOID", spec := "fnShortOID", unfollowed := true, recurses := true, apart := false, narrowed := true }
def FnShortOIDUptoSaid : Prop := fnShortOIDUptoRow.holds Try.pinned (OpenSpec.upto fnShortOIDSpec)

/-- 'laws.FnPutBits', WHERE WHAT IT READS IS OF BULK AT MOST 1048576: true; the input reads as it did. -/
def fnPutBitsUptoRow : OpenClaim := { program := "ytmiemfgcggkbnaa", sum := "8e2c69810a5aa362f406488bfd65bde15bc412c91490e0ab788f2bddf4597605", func := "loop.example/pub-g03266/laws.FnPutBits", spec := "fnPutBits", unfollowed := true, recurses := true, apart := false, narrowed := true }
def FnPutBitsUptoSaid : Prop := fnPutBitsUptoRow.holds Try.pinned (OpenSpec.upto fnPutBitsSpec)

/-- 'laws.FnPutInt64', WHERE WHAT IT READS IS OF BULK AT MOST 1048576: true; the input reads as it did. -/
def fnPutInt64UptoRow : OpenClaim := { program := "ytmiemfgcggkbnaa", sum := "8e2c69810a5aa362f406488bfd65bde15bc412c91490e0ab788f2bddf4597605", func := "loop.example/pub-g03266/laws.FnPutInt64", spec := "fnPutInt64", unfollowed := true, recurses := true, apart := false, narrowed := true }
def FnPutInt64UptoSaid : Prop := fnPutInt64UptoRow.holds Try.pinned (OpenSpec.upto fnPutInt64Spec)

end Rows
end Go.Proofs.Ytmiemfgcggkbnaa
