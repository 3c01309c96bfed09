import Derived.Test.YbulkbgveFmtRA
namespace Go.Proofs.YbulkbgveFmt
open Go.RowKit Go.Extern.Stop Go.Stop Go.Extern

/-- What follows region k in its sequence. -/
def afterRegion (k : Nat) : Code → Option Code
  | .seq (.region id _ _) r => if id = k then some r else afterRegion k r
  | .seq a r => match afterRegion k a with
    | some c => some c
    | none => afterRegion k r
  | .block _ c => afterRegion k c
  | .scope c => afterRegion k c
  | _ => none

/-- The sequence that begins with region k. -/
def fromRegion (k : Nat) : Code → Option Code
  | .seq (.region id ops b) r => if id = k then some (.seq (.region id ops b) r) else fromRegion k r
  | .seq a r => match fromRegion k a with
    | some c => some c
    | none => fromRegion k r
  | .block _ c => fromRegion k c
  | .scope c => fromRegion k c
  | _ => none

end Go.Proofs.YbulkbgveFmt
