/-
  DERIVED. GIVEN WITH THE SEED: THE CARDS: each row of YbulkbgtoDoorRows.lean that lists a variable, with what it lists TIED to the program's text (the seventh form; the later family's looks); each row that meets fmt, with fmt's text TOLD by the authors' own Lean function (tested against real Go, not proved from fmt's source: count such statements apart). THE CARD IS WHAT COUNTS. Prove the row's statement (the work); the ties are given (YbulkbgtoDoorTie.lean); close each card by the builder's one call (the guide's Derived/Test/ToyasCard.lean, 'card_holds'). Laid BY PROGRAM, IN A SANDBOX (cutbox-door.mjs). By AI agents, Wed Nov 11 2026. No macro, syntax, notation, axiom, sorry.
-/
import Derived.Test.YbulkbgtoDoorRows
import GoSem.ClaimSeven
namespace Go.Proofs.YbulkbgtoDoor
namespace Rows

/-- THE TIED CARD OF 'cachewire.LawS2887AParse'. -/
def lawS2887AParseCard : Claim7 := { stood := { row := lawS2887AParseRow, standIns := [], harness := (true, "81d86b33a7dcd942ca0d85f4a0637af667d7b77dd1f50fe86043f432e19aa462"), looks := true }, kinds := [], alts := [], laidByText := true, laidKinds := [.data, .data, .data, .sentinel, .sentinel], laidTests := true, laidLooks := .later }
def LawS2887AParseCardSaid : Prop := Claim7.holds Ybad.pinned (.plain (OpenSpec.ofChange lawS2887AParseSpec)) lawS2887AParseCard

/-- THE TIED CARD OF 'cachewire.LawS2887ADigits'. -/
def lawS2887ADigitsCard : Claim7 := { stood := { row := lawS2887ADigitsRow, standIns := [], harness := (true, "81d86b33a7dcd942ca0d85f4a0637af667d7b77dd1f50fe86043f432e19aa462"), looks := true }, kinds := [], alts := [], laidByText := true, laidKinds := [.data, .data, .data, .sentinel, .sentinel], laidTests := true, laidLooks := .later }
def LawS2887ADigitsCardSaid : Prop := Claim7.holds Ybad.pinned (.plain (OpenSpec.ofChange lawS2887ADigitsSpec)) lawS2887ADigitsCard
end Rows
end Go.Proofs.YbulkbgtoDoor
