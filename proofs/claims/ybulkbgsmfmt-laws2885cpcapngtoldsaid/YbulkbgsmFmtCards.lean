/-
  DERIVED. GIVEN WITH THE SEED: THE CARDS: each row of YbulkbgsmFmtRows.lean that lists a variable, with what it lists TIED to the program's text (the seventh form; the later family's looks); each row that meets fmt, with fmt's text TOLD by the authors' own Lean function (tested against real Go, not proved from fmt's source: count such statements apart). THE CARD IS WHAT COUNTS. Prove the row's statement (the work); the ties are given (YbulkbgsmFmtTie.lean); close each card by the builder's one call (the guide's Derived/Test/ToyasCard.lean, 'card_holds'). Laid BY PROGRAM, IN A SANDBOX (cutbox-door.mjs). By AI agents, Wed Nov 11 2026. No macro, syntax, notation, axiom, sorry.
-/
import Derived.Test.YbulkbgsmFmtRows
import GoSem.ClaimSeven
namespace Go.Proofs.YbulkbgsmFmt
namespace Rows

/-- THE TOLD AND TIED CARD OF 'capture.LawS2885CClassic'. -/
def lawS2885CClassicCard : Claim7 := { stood := { row := lawS2885CClassicRow, standIns := [], harness := (true, "38a63ec952c5e14b1ec39f86b7a66dc20e6af6d78bdadcfda5171cc51aee10f8"), looks := true }, told := true, laidByText := true, laidKinds := [.sentinel, .sentinel, .sentinel, .sentinel, .sentinel, .sentinel, .sentinel, .sentinel], laidTests := true, laidLooks := .later, goes := false }
def LawS2885CClassicToldSaid : Prop := Claim7.holds Ybaf.pinned (.plain (OpenSpec.ofChange lawS2885CClassicSpec)) lawS2885CClassicCard
/-- ITS FALSE NEIGHBOUR. Refute it at one input. -/
def LawS2885CClassicToldWrongFalsely : Prop := Claim7.holds Ybaf.pinned (.plain (OpenSpec.ofChange lawS2885CClassicWrong)) lawS2885CClassicCard

/-- THE TOLD AND TIED CARD OF 'capture.LawS2885CPcapng'. -/
def lawS2885CPcapngCard : Claim7 := { stood := { row := lawS2885CPcapngRow, standIns := [], harness := (true, "38a63ec952c5e14b1ec39f86b7a66dc20e6af6d78bdadcfda5171cc51aee10f8"), looks := true }, told := true, laidByText := true, laidKinds := [.sentinel, .sentinel, .sentinel, .sentinel, .sentinel, .sentinel, .sentinel, .sentinel], laidTests := true, laidLooks := .later, goes := false }
def LawS2885CPcapngToldSaid : Prop := Claim7.holds Ybaf.pinned (.plain (OpenSpec.ofChange lawS2885CPcapngSpec)) lawS2885CPcapngCard
/-- ITS FALSE NEIGHBOUR. Refute it at one input. -/
def LawS2885CPcapngToldWrongFalsely : Prop := Claim7.holds Ybaf.pinned (.plain (OpenSpec.ofChange lawS2885CPcapngWrong)) lawS2885CPcapngCard
end Rows
end Go.Proofs.YbulkbgsmFmt
