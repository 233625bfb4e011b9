/-
  DERIVED. GIVEN WITH THE SEED: THE CARDS: each row of YtmiemfgcggkbnaaDoorRows.lean that lists a variable, with what it lists TIED to the program's text (the seventh form; the later family's looks); each row that meets fmt, with fmt's text TOLD by the authors' own Lean function (tested against real Go, not proved from fmt's source: count such statements apart). THE CARD IS WHAT COUNTS. Prove the row's statement (the work); the ties are given (YtmiemfgcggkbnaaDoorTie.lean); close each card by the builder's one call (the guide's Derived/Test/ToyasCard.lean, 'card_holds'). Laid BY PROGRAM, IN A SANDBOX (cutbox-door.mjs). By AI agents, Wed Nov 11 2026. No macro, syntax, notation, axiom, sorry.
-/
import Derived.Test.YtmiemfgcggkbnaaDoorRows
import GoSem.ClaimSeven
namespace Go.Proofs.YtmiemfgcggkbnaaDoor
namespace Rows

/-- THE TIED CARD OF 'laws.FnPutText'. -/
def fnPutTextCard : Claim7 := { stood := { row := fnPutTextRow, standIns := [], harness := (true, "431a4c9020da5a1d33dd23e9c306af21aa45a68381b17aabcbf7eb73a9082b60"), looks := false }, kinds := [], alts := [], laidByText := true, laidKinds := [.data, .pinned], laidTests := true, laidLooks := .later }
def FnPutTextCardSaid : Prop := Claim7.holds Tryd.pinned (.plain (OpenSpec.ofChange fnPutTextSpec)) fnPutTextCard

/-- THE TIED CARD OF 'laws.FnReadText'. -/
def fnReadTextCard : Claim7 := { stood := { row := fnReadTextRow, standIns := [], harness := (true, "431a4c9020da5a1d33dd23e9c306af21aa45a68381b17aabcbf7eb73a9082b60"), looks := false }, kinds := [], alts := [], laidByText := true, laidKinds := [.data, .pinned], laidTests := true, laidLooks := .later }
def FnReadTextCardSaid : Prop := Claim7.holds Tryd.pinned (.plain (OpenSpec.ofChange fnReadTextSpec)) fnReadTextCard

/-- THE SECOND FORM's CARD OF 'laws.FnPutText'. -/
def fnPutTextUptoCard : Claim7 := { stood := { row := fnPutTextUptoRow, standIns := [], harness := (true, "431a4c9020da5a1d33dd23e9c306af21aa45a68381b17aabcbf7eb73a9082b60"), looks := false }, kinds := [], alts := [], laidByText := true, laidKinds := [.data, .pinned], laidTests := true, laidLooks := .later }
def FnPutTextUptoCardSaid : Prop := Claim7.holds Tryd.pinned (.plain (OpenSpec.upto fnPutTextSpec)) fnPutTextUptoCard

/-- THE SECOND FORM's CARD OF 'laws.FnReadText'. -/
def fnReadTextUptoCard : Claim7 := { stood := { row := fnReadTextUptoRow, standIns := [], harness := (true, "431a4c9020da5a1d33dd23e9c306af21aa45a68381b17aabcbf7eb73a9082b60"), looks := false }, kinds := [], alts := [], laidByText := true, laidKinds := [.data, .pinned], laidTests := true, laidLooks := .later }
def FnReadTextUptoCardSaid : Prop := Claim7.holds Tryd.pinned (.plain (OpenSpec.upto fnReadTextSpec)) fnReadTextUptoCard
end Rows
end Go.Proofs.YtmiemfgcggkbnaaDoor
