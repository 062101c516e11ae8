/-
  NARROWER THAN 'FOR EVERY INPUT', by the rows' own cells (each row's printed sentence says how): FnCopyLengthCopiesExactly: laid · FnCopyLengthSplitsAnywhere: laid · FnOutgrowsAtZeroIsChunkLine: laid.
  DERIVED. THE GIVEN ROWS OF THIS SEAT. 3 by the template 'for every input the law returns true; each argument reads behind the call as it read before'; 0 by the template 'total and deterministic' (their statements: Qxb6612850aFmtTotals.lean).
  GIVEN WITH THE SEED: the statements are not yours to turn. If you find one false, say at which input.
  Laid BY PROGRAM, IN A SANDBOX (cutbox-rows.mjs): the forced cells as the released guide's own fill.sh prints them over the translation 3f2c864750d2e46e… (all of the seat's roots in one cut). By AI agents, Wed Nov 11 2026. No macro, syntax, notation, axiom, sorry.
-/
import Derived.Test.Qxb6612850aFmtChecked
import GoSem.PinnedTables
import GoSem.Claim
import GoSem.ClaimJoined
import GoSem.ClaimMapViews
import Derived.JoinedTies
import Derived.KernelRfl
namespace Go.Proofs.Qxb6612850aFmt
/- THE CELL 'sum', in the pinned program and in every row, IS THE sha256 OF THE DUMP (.gsa) THAT Qxb6612850aFmtProg.lean LOADS. Nothing in Lean hashes anything: it is a label: what it is worth is what the hold of that sum in a sandbox is worth. -/
noncomputable def Tryf.pinned : Pinned := { name := "qxb6612850afmt", sum := "3f2c864750d2e46e29a6b87c76f64e988890620757a83cff3365d9c29b6f92e9", checked := Tryf.checked }
namespace Rows
def none {H : Type} : Left H := { results := [], args := [] }

/- WHAT THE LISTED PACKAGE-LEVEL VARIABLES READ AS WHEN THE CALL BEGINS. Each datum BY PROGRAM (the guide's laid-datum.mjs) off the statement by which the dump's own 'gosem.cut.vars' lays the variable. In a bare row this is a premise. The card (Qxb6612850aFmtCards.lean) ties it to the program's text. -/
def laid_io_ErrShortWrite {H : Type} : DataW H := .iface "*errors.errorString" (.ptr (.agg [.lit (.string [115, 104, 111, 114, 116, 32, 119, 114, 105, 116, 101])]))
def laid_io_EOF {H : Type} : DataW H := .iface "*errors.errorString" (.ptr (.agg [.lit (.string [69, 79, 70])]))
def laid_io_ErrUnexpectedEOF {H : Type} : DataW H := .iface "*errors.errorString" (.ptr (.agg [.lit (.string [117, 110, 101, 120, 112, 101, 99, 116, 101, 100, 32, 69, 79, 70])]))
def laid_io_ErrNoProgress {H : Type} : DataW H := .iface "*errors.errorString" (.ptr (.agg [.lit (.string [109, 117, 108, 116, 105, 112, 108, 101, 32, 82, 101, 97, 100, 32, 99, 97, 108, 108, 115, 32, 114, 101, 116, 117, 114, 110, 32, 110, 111, 32, 100, 97, 116, 97, 32, 111, 114, 32, 101, 114, 114, 111, 114])]))
def laid_bufio_ErrBufferFull {H : Type} : DataW H := .iface "*errors.errorString" (.ptr (.agg [.lit (.string [98, 117, 102, 105, 111, 58, 32, 98, 117, 102, 102, 101, 114, 32, 102, 117, 108, 108])]))
def laid_bufio_ErrNegativeCount {H : Type} : DataW H := .iface "*errors.errorString" (.ptr (.agg [.lit (.string [98, 117, 102, 105, 111, 58, 32, 110, 101, 103, 97, 116, 105, 118, 101, 32, 99, 111, 117, 110, 116])]))
def laid_bufio_errNegativeRead {H : Type} : DataW H := .iface "*errors.errorString" (.ptr (.agg [.lit (.string [98, 117, 102, 105, 111, 58, 32, 114, 101, 97, 100, 101, 114, 32, 114, 101, 116, 117, 114, 110, 101, 100, 32, 110, 101, 103, 97, 116, 105, 118, 101, 32, 99, 111, 117, 110, 116, 32, 102, 114, 111, 109, 32, 82, 101, 97, 100])]))
def laid_unicode_utf8_acceptRanges {H : Type} : DataW H := .agg [.agg [.lit (.int .u8 128), .lit (.int .u8 191)], .agg [.lit (.int .u8 160), .lit (.int .u8 191)], .agg [.lit (.int .u8 128), .lit (.int .u8 159)], .agg [.lit (.int .u8 144), .lit (.int .u8 191)], .agg [.lit (.int .u8 128), .lit (.int .u8 143)], .agg [.lit (.int .u8 0), .lit (.int .u8 0)], .agg [.lit (.int .u8 0), .lit (.int .u8 0)], .agg [.lit (.int .u8 0), .lit (.int .u8 0)], .agg [.lit (.int .u8 0), .lit (.int .u8 0)], .agg [.lit (.int .u8 0), .lit (.int .u8 0)], .agg [.lit (.int .u8 0), .lit (.int .u8 0)], .agg [.lit (.int .u8 0), .lit (.int .u8 0)], .agg [.lit (.int .u8 0), .lit (.int .u8 0)], .agg [.lit (.int .u8 0), .lit (.int .u8 0)], .agg [.lit (.int .u8 0), .lit (.int .u8 0)], .agg [.lit (.int .u8 0), .lit (.int .u8 0)]]
/-- One of Go's own tables, pinned by name: the form's constant. -/
def laid_unicode_utf8_first : DataW Unit := Go.Pinned.utf8First

/-- 'zzlaws_internal_proxy_http1_b1.FnCopyLengthCopiesExactly': WHATEVER THE INPUT: true; the input reads as it did. -/
def fnCopyLengthCopiesExactlySpec : ChangeSpec := { name := "fnCopyLengthCopiesExactly", fn := fun _ => fun
  | [d1, d2, d3, d4, d5] => { results := [.lit (.bool true)], args := [d1, d2, d3, d4, d5] }
  | _ => none }
def fnCopyLengthCopiesExactlyRow : OpenClaim := { program := "qxb6612850afmt", sum := "3f2c864750d2e46e29a6b87c76f64e988890620757a83cff3365d9c29b6f92e9", func := "example.com/tidegate/tidegate/zzlaws_internal_proxy_http1_b1.FnCopyLengthCopiesExactly", spec := "fnCopyLengthCopiesExactly", stops := ["fmt.errorf, its operands' methods called"], inPlace := ["internal/reflectlite.TypeOf", "fmt.errorf"], unfollowed := true, recurses := true, named := ["io.ErrShortWrite", "bufio.ErrNegativeCount", "bufio.ErrBufferFull", "bufio.errNegativeRead", "io.ErrNoProgress", "io.EOF", "io.ErrUnexpectedEOF"], apart := false, laid := [("io.ErrShortWrite", laid_io_ErrShortWrite), ("io.EOF", laid_io_EOF), ("io.ErrUnexpectedEOF", laid_io_ErrUnexpectedEOF), ("io.ErrNoProgress", laid_io_ErrNoProgress), ("bufio.ErrBufferFull", laid_bufio_ErrBufferFull), ("bufio.ErrNegativeCount", laid_bufio_ErrNegativeCount), ("bufio.errNegativeRead", laid_bufio_errNegativeRead)] }
/-- NO THEOREM (fmt's text is open here; it may be false): for the released tool's asking of the row's closed facts alone. THE STATEMENT IS 'FnCopyLengthCopiesExactlyToldSaid' (Qxb6612850aFmtCards.lean). -/
def FnCopyLengthCopiesExactlyFormAsk : Prop := fnCopyLengthCopiesExactlyRow.holds Tryf.pinned (OpenSpec.ofChange fnCopyLengthCopiesExactlySpec)

/-- ITS FALSE NEIGHBOUR: 'it returns false'. Refute it at one input. -/
def fnCopyLengthCopiesExactlyWrong : ChangeSpec := { name := "fnCopyLengthCopiesExactly", fn := fun _ => fun
  | [d1, d2, d3, d4, d5] => { results := [.lit (.bool false)], args := [d1, d2, d3, d4, d5] }
  | _ => none }
def FnCopyLengthCopiesExactlyWrongFormAsk : Prop := fnCopyLengthCopiesExactlyRow.holds Tryf.pinned (OpenSpec.ofChange fnCopyLengthCopiesExactlyWrong)

/-- 'zzlaws_internal_proxy_http1_b1.FnCopyLengthSplitsAnywhere': WHATEVER THE INPUT: true; the input reads as it did. -/
def fnCopyLengthSplitsAnywhereSpec : ChangeSpec := { name := "fnCopyLengthSplitsAnywhere", fn := fun _ => fun
  | [d1, d2, d3, d4, d5, d6] => { results := [.lit (.bool true)], args := [d1, d2, d3, d4, d5, d6] }
  | _ => none }
def fnCopyLengthSplitsAnywhereRow : OpenClaim := { program := "qxb6612850afmt", sum := "3f2c864750d2e46e29a6b87c76f64e988890620757a83cff3365d9c29b6f92e9", func := "example.com/tidegate/tidegate/zzlaws_internal_proxy_http1_b1.FnCopyLengthSplitsAnywhere", spec := "fnCopyLengthSplitsAnywhere", stops := ["fmt.errorf, its operands' methods called"], inPlace := ["internal/reflectlite.TypeOf", "fmt.errorf"], unfollowed := true, recurses := true, named := ["io.ErrShortWrite", "bufio.ErrNegativeCount", "bufio.ErrBufferFull", "bufio.errNegativeRead", "io.ErrNoProgress", "io.EOF", "io.ErrUnexpectedEOF"], apart := false, laid := [("io.ErrShortWrite", laid_io_ErrShortWrite), ("io.EOF", laid_io_EOF), ("io.ErrUnexpectedEOF", laid_io_ErrUnexpectedEOF), ("io.ErrNoProgress", laid_io_ErrNoProgress), ("bufio.ErrBufferFull", laid_bufio_ErrBufferFull), ("bufio.ErrNegativeCount", laid_bufio_ErrNegativeCount), ("bufio.errNegativeRead", laid_bufio_errNegativeRead)] }
/-- NO THEOREM (fmt's text is open here; it may be false): for the released tool's asking of the row's closed facts alone. THE STATEMENT IS 'FnCopyLengthSplitsAnywhereToldSaid' (Qxb6612850aFmtCards.lean). -/
def FnCopyLengthSplitsAnywhereFormAsk : Prop := fnCopyLengthSplitsAnywhereRow.holds Tryf.pinned (OpenSpec.ofChange fnCopyLengthSplitsAnywhereSpec)

/-- ITS FALSE NEIGHBOUR: 'it returns false'. Refute it at one input. -/
def fnCopyLengthSplitsAnywhereWrong : ChangeSpec := { name := "fnCopyLengthSplitsAnywhere", fn := fun _ => fun
  | [d1, d2, d3, d4, d5, d6] => { results := [.lit (.bool false)], args := [d1, d2, d3, d4, d5, d6] }
  | _ => none }
def FnCopyLengthSplitsAnywhereWrongFormAsk : Prop := fnCopyLengthSplitsAnywhereRow.holds Tryf.pinned (OpenSpec.ofChange fnCopyLengthSplitsAnywhereWrong)

/-- 'zzlaws_internal_proxy_http1_b1.FnOutgrowsAtZeroIsChunkLine': WHATEVER THE INPUT: true; the input reads as it did. -/
def fnOutgrowsAtZeroIsChunkLineSpec : ChangeSpec := { name := "fnOutgrowsAtZeroIsChunkLine", fn := fun _ => fun
  | [d1, d2] => { results := [.lit (.bool true)], args := [d1, d2] }
  | _ => none }
def fnOutgrowsAtZeroIsChunkLineRow : OpenClaim := { program := "qxb6612850afmt", sum := "3f2c864750d2e46e29a6b87c76f64e988890620757a83cff3365d9c29b6f92e9", func := "example.com/tidegate/tidegate/zzlaws_internal_proxy_http1_b1.FnOutgrowsAtZeroIsChunkLine", spec := "fnOutgrowsAtZeroIsChunkLine", stops := ["fmt.errorf, its operands' methods called"], inPlace := ["internal/bytealg.IndexByte", "fmt.errorf"], unfollowed := true, recurses := true, named := ["unicode/utf8.first", "unicode/utf8.acceptRanges"], apart := false, laid := [("unicode/utf8.acceptRanges", laid_unicode_utf8_acceptRanges), ("unicode/utf8.first", laid_unicode_utf8_first)] }
/-- NO THEOREM (fmt's text is open here; it may be false): for the released tool's asking of the row's closed facts alone. THE STATEMENT IS 'FnOutgrowsAtZeroIsChunkLineToldSaid' (Qxb6612850aFmtCards.lean). -/
def FnOutgrowsAtZeroIsChunkLineFormAsk : Prop := fnOutgrowsAtZeroIsChunkLineRow.holds Tryf.pinned (OpenSpec.ofChange fnOutgrowsAtZeroIsChunkLineSpec)

/-- ITS FALSE NEIGHBOUR: 'it returns false'. Refute it at one input. -/
def fnOutgrowsAtZeroIsChunkLineWrong : ChangeSpec := { name := "fnOutgrowsAtZeroIsChunkLine", fn := fun _ => fun
  | [d1, d2] => { results := [.lit (.bool false)], args := [d1, d2] }
  | _ => none }
def FnOutgrowsAtZeroIsChunkLineWrongFormAsk : Prop := fnOutgrowsAtZeroIsChunkLineRow.holds Tryf.pinned (OpenSpec.ofChange fnOutgrowsAtZeroIsChunkLineWrong)

end Rows
end Go.Proofs.Qxb6612850aFmt
