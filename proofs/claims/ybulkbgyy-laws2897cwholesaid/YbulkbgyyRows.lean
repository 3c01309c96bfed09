/-
  No cell of these rows narrows 'for every input' (looked for: loops, veiled, ifaces, maps, wideKeys, modest, calm, conditions, laid).
  DERIVED. THE GIVEN ROWS OF THIS SEAT. 4 by the template 'for every input the law returns true; each argument reads behind the call as it read before'; 0 by the template 'total and deterministic' (their statements: YbulkbgyyTotals.lean).
  GIVEN WITH THE SEED: the statements are not yours to turn. If you find one false, say at which input.
  Laid BY PROGRAM, IN A SANDBOX (cutbox-rows.mjs): the forced cells as the released guide's own fill.sh prints them over the translation 49cd294d398912cf… (all of the seat's roots in one cut). By AI agents, Wed Nov 11 2026. No macro, syntax, notation, axiom, sorry.
-/
import Derived.Test.YbulkbgyyChecked
import GoSem.Claim
import GoSem.ClaimJoined
import GoSem.ClaimMapViews
import Derived.JoinedTies
import Derived.KernelRfl
namespace Go.Proofs.Ybulkbgyy
/- THE CELL 'sum', in the pinned program and in every row, IS THE sha256 OF THE DUMP (.gsa) THAT YbulkbgyyProg.lean LOADS. Nothing in Lean hashes anything: it is a label: what it is worth is what the hold of that sum in a sandbox is worth. -/
noncomputable def Yba.pinned : Pinned := { name := "ybulkbgyy", sum := "49cd294d398912cfe5cafbc7f735e1e640b74c92b865865490ea7887a9d91af8", checked := Yba.checked }
namespace Rows
def none {H : Type} : Left H := { results := [], args := [] }

/-- 'node.LawS2897BReads': WHATEVER THE INPUT: true; the input reads as it did. -/
def lawS2897BReadsSpec : ChangeSpec := { name := "lawS2897BReads", fn := fun _ => fun
  | [d1, d2, d3, d4, d5, d6, d7] => { results := [.lit (.bool true)], args := [d1, d2, d3, d4, d5, d6, d7] }
  | _ => none }
def lawS2897BReadsRow : OpenClaim := { program := "ybulkbgyy", sum := "49cd294d398912cfe5cafbc7f735e1e640b74c92b865865490ea7887a9d91af8", func := "example.com/concordat/concordat/pkg/node.LawS2897BReads", spec := "lawS2897BReads", inPlace := ["(*internal/sync.Mutex).Lock", "internal/race.Disable", "sync/atomic.CompareAndSwapInt32", "internal/race.Enable", "internal/race.Acquire", "(*internal/sync.Mutex).lockSlow", "internal/sync.runtime_canSpin", "internal/sync.runtime_doSpin", "internal/sync.throw", "internal/sync.runtime_nanotime", "internal/sync.runtime_SemacquireMutex", "sync/atomic.AddInt32", "(*internal/sync.Mutex).Unlock", "internal/race.ReleaseMerge", "(*internal/sync.Mutex).unlockSlow", "internal/sync.fatal", "internal/sync.runtime_Semrelease", "(*internal/sync.Mutex).TryLock"], apart := false }
def LawS2897BReadsSaid : Prop := lawS2897BReadsRow.holds Yba.pinned (OpenSpec.ofChange lawS2897BReadsSpec)

/-- ITS FALSE NEIGHBOUR: 'it returns false'. Refute it at one input. -/
def lawS2897BReadsWrong : ChangeSpec := { name := "lawS2897BReads", fn := fun _ => fun
  | [d1, d2, d3, d4, d5, d6, d7] => { results := [.lit (.bool false)], args := [d1, d2, d3, d4, d5, d6, d7] }
  | _ => none }
def LawS2897BReadsWrongFalsely : Prop := lawS2897BReadsRow.holds Yba.pinned (OpenSpec.ofChange lawS2897BReadsWrong)

/-- 'node.LawS2897BZero': WHATEVER THE INPUT: true; the input reads as it did. -/
def lawS2897BZeroSpec : ChangeSpec := { name := "lawS2897BZero", fn := fun _ => fun
  | [d1, d2] => { results := [.lit (.bool true)], args := [d1, d2] }
  | _ => none }
def lawS2897BZeroRow : OpenClaim := { program := "ybulkbgyy", sum := "49cd294d398912cfe5cafbc7f735e1e640b74c92b865865490ea7887a9d91af8", func := "example.com/concordat/concordat/pkg/node.LawS2897BZero", spec := "lawS2897BZero", inPlace := ["(*internal/sync.Mutex).Lock", "internal/race.Disable", "sync/atomic.CompareAndSwapInt32", "internal/race.Enable", "internal/race.Acquire", "(*internal/sync.Mutex).lockSlow", "internal/sync.runtime_canSpin", "internal/sync.runtime_doSpin", "internal/sync.throw", "internal/sync.runtime_nanotime", "internal/sync.runtime_SemacquireMutex", "sync/atomic.AddInt32", "(*internal/sync.Mutex).Unlock", "internal/race.ReleaseMerge", "(*internal/sync.Mutex).unlockSlow", "internal/sync.fatal", "internal/sync.runtime_Semrelease"], apart := false }
def LawS2897BZeroSaid : Prop := lawS2897BZeroRow.holds Yba.pinned (OpenSpec.ofChange lawS2897BZeroSpec)

/-- ITS FALSE NEIGHBOUR: 'it returns false'. Refute it at one input. -/
def lawS2897BZeroWrong : ChangeSpec := { name := "lawS2897BZero", fn := fun _ => fun
  | [d1, d2] => { results := [.lit (.bool false)], args := [d1, d2] }
  | _ => none }
def LawS2897BZeroWrongFalsely : Prop := lawS2897BZeroRow.holds Yba.pinned (OpenSpec.ofChange lawS2897BZeroWrong)

/-- 'cluster.LawS2897CWhole': WHATEVER THE INPUT: true; the input reads as it did. -/
def lawS2897CWholeSpec : ChangeSpec := { name := "lawS2897CWhole", fn := fun _ => fun
  | [d1, d2, d3] => { results := [.lit (.bool true)], args := [d1, d2, d3] }
  | _ => none }
def lawS2897CWholeRow : OpenClaim := { program := "ybulkbgyy", sum := "49cd294d398912cfe5cafbc7f735e1e640b74c92b865865490ea7887a9d91af8", func := "example.com/concordat/concordat/pkg/cluster.LawS2897CWhole", spec := "lawS2897CWhole", unfollowed := true, recurses := true, apart := false }
def LawS2897CWholeSaid : Prop := lawS2897CWholeRow.holds Yba.pinned (OpenSpec.ofChange lawS2897CWholeSpec)

/-- ITS FALSE NEIGHBOUR: 'it returns false'. Refute it at one input. -/
def lawS2897CWholeWrong : ChangeSpec := { name := "lawS2897CWhole", fn := fun _ => fun
  | [d1, d2, d3] => { results := [.lit (.bool false)], args := [d1, d2, d3] }
  | _ => none }
def LawS2897CWholeWrongFalsely : Prop := lawS2897CWholeRow.holds Yba.pinned (OpenSpec.ofChange lawS2897CWholeWrong)

/-- 'cluster.LawS2897CStop': WHATEVER THE INPUT: true; the input reads as it did. -/
def lawS2897CStopSpec : ChangeSpec := { name := "lawS2897CStop", fn := fun _ => fun
  | [d1, d2, d3, d4] => { results := [.lit (.bool true)], args := [d1, d2, d3, d4] }
  | _ => none }
def lawS2897CStopRow : OpenClaim := { program := "ybulkbgyy", sum := "49cd294d398912cfe5cafbc7f735e1e640b74c92b865865490ea7887a9d91af8", func := "example.com/concordat/concordat/pkg/cluster.LawS2897CStop", spec := "lawS2897CStop", unfollowed := true, recurses := true, apart := false }
def LawS2897CStopSaid : Prop := lawS2897CStopRow.holds Yba.pinned (OpenSpec.ofChange lawS2897CStopSpec)

/-- ITS FALSE NEIGHBOUR: 'it returns false'. Refute it at one input. -/
def lawS2897CStopWrong : ChangeSpec := { name := "lawS2897CStop", fn := fun _ => fun
  | [d1, d2, d3, d4] => { results := [.lit (.bool false)], args := [d1, d2, d3, d4] }
  | _ => none }
def LawS2897CStopWrongFalsely : Prop := lawS2897CStopRow.holds Yba.pinned (OpenSpec.ofChange lawS2897CStopWrong)

end Rows
end Go.Proofs.Ybulkbgyy
