/-
  NARROWER THAN 'FOR EVERY INPUT', by the rows' own cells (each row's printed sentence says how): LawS2885CClassic: ifaces, laid · LawS2885CPcapng: ifaces, laid.
  DERIVED. THE GIVEN ROWS OF THIS SEAT. 2 by the template 'for every input the law returns true; each argument reads behind the call as it read before'; 0 by the template 'total and deterministic' (their statements: YbulkbgsmFmtTotals.lean).
  GIVEN WITH THE SEED: the statements are not yours to turn. If you find one false, say at which input.
  Laid BY PROGRAM, IN A SANDBOX (cutbox-rows.mjs): the forced cells as the released guide's own fill.sh prints them over the translation 3eb20d806ccbec73… (all of the seat's roots in one cut). By AI agents, Wed Nov 11 2026. No macro, syntax, notation, axiom, sorry.
-/
import Derived.Test.YbulkbgsmFmtChecked
import GoSem.Claim
import GoSem.ClaimJoined
import GoSem.ClaimMapViews
import Derived.JoinedTies
import Derived.KernelRfl
namespace Go.Proofs.YbulkbgsmFmt
/- THE CELL 'sum', in the pinned program and in every row, IS THE sha256 OF THE DUMP (.gsa) THAT YbulkbgsmFmtProg.lean LOADS. Nothing in Lean hashes anything: it is a label: what it is worth is what the hold of that sum in a sandbox is worth. -/
noncomputable def Ybaf.pinned : Pinned := { name := "ybulkbgsmfmt", sum := "3eb20d806ccbec738ef0b23197bea273fceb9f3f807730f3af11018e710d47bd", checked := Ybaf.checked }
namespace Rows
def none {H : Type} : Left H := { results := [], args := [] }

/- WHAT THE LISTED PACKAGE-LEVEL VARIABLES READ AS WHEN THE CALL BEGINS. Each datum BY PROGRAM (the guide's laid-datum.mjs) off the statement by which the dump's own 'gosem.cut.vars' lays the variable. In a bare row this is a premise. The card (YbulkbgsmFmtCards.lean) ties it to the program's text. -/
def laid_io_ErrShortBuffer {H : Type} : DataW H := .iface "*errors.errorString" (.ptr (.agg [.lit (.string [115, 104, 111, 114, 116, 32, 98, 117, 102, 102, 101, 114])]))
def laid_io_EOF {H : Type} : DataW H := .iface "*errors.errorString" (.ptr (.agg [.lit (.string [69, 79, 70])]))
def laid_io_ErrUnexpectedEOF {H : Type} : DataW H := .iface "*errors.errorString" (.ptr (.agg [.lit (.string [117, 110, 101, 120, 112, 101, 99, 116, 101, 100, 32, 69, 79, 70])]))
def laid_io_ErrNoProgress {H : Type} : DataW H := .iface "*errors.errorString" (.ptr (.agg [.lit (.string [109, 117, 108, 116, 105, 112, 108, 101, 32, 82, 101, 97, 100, 32, 99, 97, 108, 108, 115, 32, 114, 101, 116, 117, 114, 110, 32, 110, 111, 32, 100, 97, 116, 97, 32, 111, 114, 32, 101, 114, 114, 111, 114])]))
def laid_bufio_ErrBufferFull {H : Type} : DataW H := .iface "*errors.errorString" (.ptr (.agg [.lit (.string [98, 117, 102, 105, 111, 58, 32, 98, 117, 102, 102, 101, 114, 32, 102, 117, 108, 108])]))
def laid_bufio_ErrNegativeCount {H : Type} : DataW H := .iface "*errors.errorString" (.ptr (.agg [.lit (.string [98, 117, 102, 105, 111, 58, 32, 110, 101, 103, 97, 116, 105, 118, 101, 32, 99, 111, 117, 110, 116])]))
def laid_bufio_errNegativeRead {H : Type} : DataW H := .iface "*errors.errorString" (.ptr (.agg [.lit (.string [98, 117, 102, 105, 111, 58, 32, 114, 101, 97, 100, 101, 114, 32, 114, 101, 116, 117, 114, 110, 101, 100, 32, 110, 101, 103, 97, 116, 105, 118, 101, 32, 99, 111, 117, 110, 116, 32, 102, 114, 111, 109, 32, 82, 101, 97, 100])]))
def laid_example_com_pathlantern_pathlantern_capture_errNotCapture {H : Type} : DataW H := .iface "*errors.errorString" (.ptr (.agg [.lit (.string [110, 111, 116, 32, 97, 32, 112, 99, 97, 112, 32, 111, 114, 32, 112, 99, 97, 112, 110, 103, 32, 99, 97, 112, 116, 117, 114, 101])]))

/-- 'capture.LawS2885CClassic': WHATEVER THE INPUT: true; the input reads as it did. -/
def lawS2885CClassicSpec : ChangeSpec := { name := "lawS2885CClassic", vars := ["example.com/pathlantern/pathlantern/capture.errNotCapture"], fn := fun _ => fun
  | [d1, d2, d3, d4, g1] => { results := [.lit (.bool true)], args := [d1, d2, d3, d4], vars := [g1] }
  | _ => none }
def lawS2885CClassicRow : OpenClaim := { program := "ybulkbgsmfmt", sum := "3eb20d806ccbec738ef0b23197bea273fceb9f3f807730f3af11018e710d47bd", func := "example.com/pathlantern/pathlantern/capture.LawS2885CClassic", spec := "lawS2885CClassic", stops := ["fmt.errorf, its operands' methods called", "fmt.Sprintf"], inPlace := ["fmt.errorf"], unfollowed := true, recurses := true, named := ["io.EOF", "encoding/binary.BigEndian", "encoding/binary.LittleEndian", "example.com/pathlantern/pathlantern/capture.errNotCapture", "bufio.ErrNegativeCount", "bufio.ErrBufferFull", "bufio.errNegativeRead", "io.ErrNoProgress", "io.ErrUnexpectedEOF", "io.ErrShortBuffer"], ifaces := true, apart := false, laid := [("io.ErrShortBuffer", laid_io_ErrShortBuffer), ("io.EOF", laid_io_EOF), ("io.ErrUnexpectedEOF", laid_io_ErrUnexpectedEOF), ("io.ErrNoProgress", laid_io_ErrNoProgress), ("bufio.ErrBufferFull", laid_bufio_ErrBufferFull), ("bufio.ErrNegativeCount", laid_bufio_ErrNegativeCount), ("bufio.errNegativeRead", laid_bufio_errNegativeRead), ("example.com/pathlantern/pathlantern/capture.errNotCapture", laid_example_com_pathlantern_pathlantern_capture_errNotCapture)] }
/-- NO THEOREM (fmt's text is open here; it may be false): for the released tool's asking of the row's closed facts alone. THE STATEMENT IS 'LawS2885CClassicToldSaid' (YbulkbgsmFmtCards.lean). -/
def LawS2885CClassicFormAsk : Prop := lawS2885CClassicRow.holds Ybaf.pinned (OpenSpec.ofChange lawS2885CClassicSpec)

/-- ITS FALSE NEIGHBOUR: 'it returns false'. Refute it at one input. -/
def lawS2885CClassicWrong : ChangeSpec := { name := "lawS2885CClassic", vars := ["example.com/pathlantern/pathlantern/capture.errNotCapture"], fn := fun _ => fun
  | [d1, d2, d3, d4, g1] => { results := [.lit (.bool false)], args := [d1, d2, d3, d4], vars := [g1] }
  | _ => none }
def LawS2885CClassicWrongFormAsk : Prop := lawS2885CClassicRow.holds Ybaf.pinned (OpenSpec.ofChange lawS2885CClassicWrong)

/-- 'capture.LawS2885CPcapng': WHATEVER THE INPUT: true; the input reads as it did. -/
def lawS2885CPcapngSpec : ChangeSpec := { name := "lawS2885CPcapng", vars := ["example.com/pathlantern/pathlantern/capture.errNotCapture"], fn := fun _ => fun
  | [d1, d2, d3, g1] => { results := [.lit (.bool true)], args := [d1, d2, d3], vars := [g1] }
  | _ => none }
def lawS2885CPcapngRow : OpenClaim := { program := "ybulkbgsmfmt", sum := "3eb20d806ccbec738ef0b23197bea273fceb9f3f807730f3af11018e710d47bd", func := "example.com/pathlantern/pathlantern/capture.LawS2885CPcapng", spec := "lawS2885CPcapng", stops := ["fmt.errorf, its operands' methods called", "fmt.Sprintf"], inPlace := ["fmt.errorf"], unfollowed := true, recurses := true, named := ["io.EOF", "encoding/binary.BigEndian", "encoding/binary.LittleEndian", "example.com/pathlantern/pathlantern/capture.errNotCapture", "bufio.ErrNegativeCount", "bufio.ErrBufferFull", "bufio.errNegativeRead", "io.ErrNoProgress", "io.ErrUnexpectedEOF", "io.ErrShortBuffer"], ifaces := true, apart := false, laid := [("io.ErrShortBuffer", laid_io_ErrShortBuffer), ("io.EOF", laid_io_EOF), ("io.ErrUnexpectedEOF", laid_io_ErrUnexpectedEOF), ("io.ErrNoProgress", laid_io_ErrNoProgress), ("bufio.ErrBufferFull", laid_bufio_ErrBufferFull), ("bufio.ErrNegativeCount", laid_bufio_ErrNegativeCount), ("bufio.errNegativeRead", laid_bufio_errNegativeRead), ("example.com/pathlantern/pathlantern/capture.errNotCapture", laid_example_com_pathlantern_pathlantern_capture_errNotCapture)] }
/-- NO THEOREM (fmt's text is open here; it may be false): for the released tool's asking of the row's closed facts alone. THE STATEMENT IS 'LawS2885CPcapngToldSaid' (YbulkbgsmFmtCards.lean). -/
def LawS2885CPcapngFormAsk : Prop := lawS2885CPcapngRow.holds Ybaf.pinned (OpenSpec.ofChange lawS2885CPcapngSpec)

/-- ITS FALSE NEIGHBOUR: 'it returns false'. Refute it at one input. -/
def lawS2885CPcapngWrong : ChangeSpec := { name := "lawS2885CPcapng", vars := ["example.com/pathlantern/pathlantern/capture.errNotCapture"], fn := fun _ => fun
  | [d1, d2, d3, g1] => { results := [.lit (.bool false)], args := [d1, d2, d3], vars := [g1] }
  | _ => none }
def LawS2885CPcapngWrongFormAsk : Prop := lawS2885CPcapngRow.holds Ybaf.pinned (OpenSpec.ofChange lawS2885CPcapngWrong)

end Rows
end Go.Proofs.YbulkbgsmFmt
