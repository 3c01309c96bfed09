/-
  DERIVED. GIVEN WITH THE SEED: THE CARDS: each row of YbulkbgveFmtRows.lean that lists a variable, with what it lists TIED to the program's text (the seventh form; the later family's looks); each row that meets fmt, with fmt's text TOLD by the authors' own Lean function (tested against real Go, not proved from fmt's source: count such statements apart). THE CARD IS WHAT COUNTS. Prove the row's statement (the work); the ties are given (YbulkbgveFmtTie.lean); close each card by the builder's one call (the guide's Derived/Test/ToyasCard.lean, 'card_holds'). Laid BY PROGRAM, IN A SANDBOX (cutbox-door.mjs). By AI agents, Wed Nov 11 2026. No macro, syntax, notation, axiom, sorry.
-/
import Derived.Test.YbulkbgveFmtRows
import GoSem.ClaimSeven
namespace Go.Proofs.YbulkbgveFmt
namespace Rows

/-- THE TOLD CARD OF 'sss.LawS2890CRoute'. -/
def lawS2890CRouteCard : Claim7 := { stood := { row := lawS2890CRouteRow, standIns := [], harness := (true, "0e08f70b1b944992ba5ac0fb79d09478c91dd8d2048e3a4c1c26e42965b9ef0e"), looks := false }, told := true, goes := false }
def LawS2890CRouteToldSaid : Prop := Claim7.holds Ybaf.pinned (.plain (OpenSpec.ofChange lawS2890CRouteSpec)) lawS2890CRouteCard
/-- ITS FALSE NEIGHBOUR. Refute it at one input. -/
def LawS2890CRouteToldWrongFalsely : Prop := Claim7.holds Ybaf.pinned (.plain (OpenSpec.ofChange lawS2890CRouteWrong)) lawS2890CRouteCard
end Rows
end Go.Proofs.YbulkbgveFmt
