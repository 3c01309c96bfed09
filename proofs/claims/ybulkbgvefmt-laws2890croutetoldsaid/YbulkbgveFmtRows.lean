/-
  No cell of these rows narrows 'for every input' (looked for: loops, veiled, ifaces, maps, wideKeys, modest, calm, conditions, laid).
  DERIVED. THE GIVEN ROWS OF THIS SEAT. 1 by the template 'for every input the law returns true; each argument reads behind the call as it read before'; 0 by the template 'total and deterministic' (their statements: YbulkbgveFmtTotals.lean).
  GIVEN WITH THE SEED: the statements are not yours to turn. If you find one false, say at which input.
  Laid BY PROGRAM, IN A SANDBOX (cutbox-rows.mjs): the forced cells as the released guide's own fill.sh prints them over the translation f15a8121f0db8cd6… (all of the seat's roots in one cut). By AI agents, Wed Nov 11 2026. No macro, syntax, notation, axiom, sorry.
-/
import Derived.Test.YbulkbgveFmtChecked
import GoSem.Claim
import GoSem.ClaimJoined
import GoSem.ClaimMapViews
import Derived.JoinedTies
import Derived.KernelRfl
namespace Go.Proofs.YbulkbgveFmt
/- THE CELL 'sum', in the pinned program and in every row, IS THE sha256 OF THE DUMP (.gsa) THAT YbulkbgveFmtProg.lean LOADS. Nothing in Lean hashes anything: it is a label: what it is worth is what the hold of that sum in a sandbox is worth. -/
noncomputable def Ybaf.pinned : Pinned := { name := "ybulkbgvefmt", sum := "f15a8121f0db8cd67fe27e3a1d3db43fb74b36bfa81f93933fe9504caa52d529", checked := Ybaf.checked }
namespace Rows
def none {H : Type} : Left H := { results := [], args := [] }

/-- 'sss.LawS2890CRoute': WHATEVER THE INPUT: true; the input reads as it did. -/
def lawS2890CRouteSpec : ChangeSpec := { name := "lawS2890CRoute", fn := fun _ => fun
  | [d1, d2, d3, d4, d5, d6, d7] => { results := [.lit (.bool true)], args := [d1, d2, d3, d4, d5, d6, d7] }
  | _ => none }
def lawS2890CRouteRow : OpenClaim := { program := "ybulkbgvefmt", sum := "f15a8121f0db8cd67fe27e3a1d3db43fb74b36bfa81f93933fe9504caa52d529", func := "example.com/notation-to-nodes/notation-to-nodes/sss.LawS2890CRoute", spec := "lawS2890CRoute", stops := ["fmt.Sprintf"], inPlace := ["fmt.Sprintf"], plainKeys := false, apart := false }
/-- NO THEOREM (fmt's text is open here; it may be false): for the released tool's asking of the row's closed facts alone. THE STATEMENT IS 'LawS2890CRouteToldSaid' (YbulkbgveFmtCards.lean). -/
def LawS2890CRouteFormAsk : Prop := lawS2890CRouteRow.holds Ybaf.pinned (OpenSpec.ofChange lawS2890CRouteSpec)

/-- ITS FALSE NEIGHBOUR: 'it returns false'. Refute it at one input. -/
def lawS2890CRouteWrong : ChangeSpec := { name := "lawS2890CRoute", fn := fun _ => fun
  | [d1, d2, d3, d4, d5, d6, d7] => { results := [.lit (.bool false)], args := [d1, d2, d3, d4, d5, d6, d7] }
  | _ => none }
def LawS2890CRouteWrongFormAsk : Prop := lawS2890CRouteRow.holds Ybaf.pinned (OpenSpec.ofChange lawS2890CRouteWrong)

end Rows
end Go.Proofs.YbulkbgveFmt
