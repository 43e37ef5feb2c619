/-
  NARROWER THAN 'FOR EVERY INPUT', by the rows' own cells (each row's printed sentence says how): FnEmpty: ifaces, laid · FnWriteComment: ifaces, laid · FnWriteDirectory: ifaces, laid · FnWriteScan: ifaces, laid.
  DERIVED. THE GIVEN ROWS OF THIS SEAT. 4 by the template 'for every input the law returns true; each argument reads behind the call as it read before'; 0 by the template 'total and deterministic' (their statements: YtkkdblifgekmkaaDoorTotals.lean).
  GIVEN WITH THE SEED: the statements are not yours to turn. If you find one false, say at which input.
  Laid BY PROGRAM, IN A SANDBOX (cutbox-rows.mjs): the forced cells as the released guide's own fill.sh prints them over the translation b68c00e076879290… (all of the seat's roots in one cut). By AI agents, Wed Nov 11 2026. No macro, syntax, notation, axiom, sorry.
-/
import Derived.Test.YtkkdblifgekmkaaDoorChecked
import GoSem.PinnedTables
import GoSem.Claim
import GoSem.ClaimJoined
import GoSem.ClaimMapViews
import Derived.JoinedTies
import Derived.KernelRfl
namespace Go.Proofs.YtkkdblifgekmkaaDoor
/- THE CELL 'sum', in the pinned program and in every row, IS THE sha256 OF THE DUMP (.gsa) THAT YtkkdblifgekmkaaDoorProg.lean LOADS. Nothing in Lean hashes anything: it is a label: what it is worth is what the hold of that sum in a sandbox is worth. -/
noncomputable def Tryd.pinned : Pinned := { name := "ytkkdblifgekmkaadoor", sum := "b68c00e0768792905ba6aebc38bfe201e8630d5b8e7ea6941d3132419e3781f3", checked := Tryd.checked }
namespace Rows
def none {H : Type} : Left H := { results := [], args := [] }

/- WHAT THE LISTED PACKAGE-LEVEL VARIABLES READ AS WHEN THE CALL BEGINS. Each datum BY PROGRAM (the guide's laid-datum.mjs) off the statement by which the dump's own 'gosem.cut.vars' lays the variable. In a bare row this is a premise. The card (YtkkdblifgekmkaaDoorCards.lean) ties it to the program's text. -/
def laid_unicode_utf8_acceptRanges {H : Type} : DataW H := .agg [.agg [.lit (.int .u8 128), .lit (.int .u8 191)], .agg [.lit (.int .u8 160), .lit (.int .u8 191)], .agg [.lit (.int .u8 128), .lit (.int .u8 159)], .agg [.lit (.int .u8 144), .lit (.int .u8 191)], .agg [.lit (.int .u8 128), .lit (.int .u8 143)], .agg [.lit (.int .u8 0), .lit (.int .u8 0)], .agg [.lit (.int .u8 0), .lit (.int .u8 0)], .agg [.lit (.int .u8 0), .lit (.int .u8 0)], .agg [.lit (.int .u8 0), .lit (.int .u8 0)], .agg [.lit (.int .u8 0), .lit (.int .u8 0)], .agg [.lit (.int .u8 0), .lit (.int .u8 0)], .agg [.lit (.int .u8 0), .lit (.int .u8 0)], .agg [.lit (.int .u8 0), .lit (.int .u8 0)], .agg [.lit (.int .u8 0), .lit (.int .u8 0)], .agg [.lit (.int .u8 0), .lit (.int .u8 0)], .agg [.lit (.int .u8 0), .lit (.int .u8 0)]]
def laid_io_ErrShortBuffer {H : Type} : DataW H := .iface "*errors.errorString" (.ptr (.agg [.lit (.string [115, 104, 111, 114, 116, 32, 98, 117, 102, 102, 101, 114])]))
def laid_io_EOF {H : Type} : DataW H := .iface "*errors.errorString" (.ptr (.agg [.lit (.string [69, 79, 70])]))
def laid_io_ErrUnexpectedEOF {H : Type} : DataW H := .iface "*errors.errorString" (.ptr (.agg [.lit (.string [117, 110, 101, 120, 112, 101, 99, 116, 101, 100, 32, 69, 79, 70])]))
def laid_io_errWhence {H : Type} : DataW H := .iface "*errors.errorString" (.ptr (.agg [.lit (.string [83, 101, 101, 107, 58, 32, 105, 110, 118, 97, 108, 105, 100, 32, 119, 104, 101, 110, 99, 101])]))
def laid_io_errOffset {H : Type} : DataW H := .iface "*errors.errorString" (.ptr (.agg [.lit (.string [83, 101, 101, 107, 58, 32, 105, 110, 118, 97, 108, 105, 100, 32, 111, 102, 102, 115, 101, 116])]))
def laid_loop_example_pub_ziparchives_pub_gozip_ErrFormat {H : Type} : DataW H := .iface "*errors.errorString" (.ptr (.agg [.lit (.string [122, 105, 112, 58, 32, 110, 111, 116, 32, 97, 32, 118, 97, 108, 105, 100, 32, 122, 105, 112, 32, 102, 105, 108, 101])]))
def laid_loop_example_pub_ziparchives_pub_gozip_ErrInsecurePath {H : Type} : DataW H := .iface "*errors.errorString" (.ptr (.agg [.lit (.string [122, 105, 112, 58, 32, 105, 110, 115, 101, 99, 117, 114, 101, 32, 102, 105, 108, 101, 32, 112, 97, 116, 104])]))
/-- One of Go's own tables, pinned by name: the form's constant. -/
def laid_unicode_utf8_first : DataW Unit := Go.Pinned.utf8First
def laid_io_ErrShortWrite {H : Type} : DataW H := .iface "*errors.errorString" (.ptr (.agg [.lit (.string [115, 104, 111, 114, 116, 32, 119, 114, 105, 116, 101])]))
def laid_loop_example_pub_ziparchives_pub_gozip_ErrAlgorithm {H : Type} : DataW H := .iface "*errors.errorString" (.ptr (.agg [.lit (.string [122, 105, 112, 58, 32, 117, 110, 115, 117, 112, 112, 111, 114, 116, 101, 100, 32, 99, 111, 109, 112, 114, 101, 115, 115, 105, 111, 110, 32, 97, 108, 103, 111, 114, 105, 116, 104, 109])]))
def laid_loop_example_pub_ziparchives_pub_gozip_errLongName {H : Type} : DataW H := .iface "*errors.errorString" (.ptr (.agg [.lit (.string [122, 105, 112, 58, 32, 70, 105, 108, 101, 72, 101, 97, 100, 101, 114, 46, 78, 97, 109, 101, 32, 116, 111, 111, 32, 108, 111, 110, 103])]))
def laid_loop_example_pub_ziparchives_pub_gozip_errLongExtra {H : Type} : DataW H := .iface "*errors.errorString" (.ptr (.agg [.lit (.string [122, 105, 112, 58, 32, 70, 105, 108, 101, 72, 101, 97, 100, 101, 114, 46, 69, 120, 116, 114, 97, 32, 116, 111, 111, 32, 108, 111, 110, 103])]))

/-- 'laws.FnEmpty': WHATEVER THE INPUT: true; the input reads as it did. -/
def fnEmptySpec : ChangeSpec := { name := "fnEmpty", vars := ["loop.example/pub-ziparchives/pub/gozip.ErrInsecurePath", "loop.example/pub-ziparchives/pub/gozip.ErrFormat"], fn := fun _ => fun
  | [d, g1, g2] => { results := [.lit (.bool true)], args := [d], vars := [g1, g2] }
  | _ => none }
def fnEmptyRow : OpenClaim := { program := "ytkkdblifgekmkaadoor", sum := "b68c00e0768792905ba6aebc38bfe201e8630d5b8e7ea6941d3132419e3781f3", func := "loop.example/pub-ziparchives/laws.FnEmpty", spec := "fnEmpty", unfollowed := true, recurses := true, named := ["loop.example/pub-ziparchives/pub/gozip.ErrInsecurePath", "loop.example/pub-ziparchives/pub/gozip.ErrFormat", "io.ErrUnexpectedEOF", "io.EOF", "io.ErrShortBuffer", "unicode/utf8.first", "unicode/utf8.acceptRanges", "io.errWhence", "io.errOffset"], ifaces := true, apart := false, laid := [("unicode/utf8.acceptRanges", laid_unicode_utf8_acceptRanges), ("io.ErrShortBuffer", laid_io_ErrShortBuffer), ("io.EOF", laid_io_EOF), ("io.ErrUnexpectedEOF", laid_io_ErrUnexpectedEOF), ("io.errWhence", laid_io_errWhence), ("io.errOffset", laid_io_errOffset), ("loop.example/pub-ziparchives/pub/gozip.ErrFormat", laid_loop_example_pub_ziparchives_pub_gozip_ErrFormat), ("loop.example/pub-ziparchives/pub/gozip.ErrInsecurePath", laid_loop_example_pub_ziparchives_pub_gozip_ErrInsecurePath), ("unicode/utf8.first", laid_unicode_utf8_first)] }
def FnEmptySaid : Prop := fnEmptyRow.holds Tryd.pinned (OpenSpec.ofChange fnEmptySpec)

/-- ITS FALSE NEIGHBOUR: 'it returns false'. Refute it at one input. -/
def fnEmptyWrong : ChangeSpec := { name := "fnEmpty", vars := ["loop.example/pub-ziparchives/pub/gozip.ErrInsecurePath", "loop.example/pub-ziparchives/pub/gozip.ErrFormat"], fn := fun _ => fun
  | [d, g1, g2] => { results := [.lit (.bool false)], args := [d], vars := [g1, g2] }
  | _ => none }
def FnEmptyWrongFalsely : Prop := fnEmptyRow.holds Tryd.pinned (OpenSpec.ofChange fnEmptyWrong)

/-- 'laws.FnWriteComment': WHATEVER THE INPUT: true; the input reads as it did. -/
def fnWriteCommentSpec : ChangeSpec := { name := "fnWriteComment", vars := ["loop.example/pub-ziparchives/pub/gozip.ErrAlgorithm", "loop.example/pub-ziparchives/pub/gozip.errLongName", "loop.example/pub-ziparchives/pub/gozip.errLongExtra"], fn := fun _ => fun
  | [d, g1, g2, g3] => { results := [.lit (.bool true)], args := [d], vars := [g1, g2, g3] }
  | _ => none }
def fnWriteCommentRow : OpenClaim := { program := "ytkkdblifgekmkaadoor", sum := "b68c00e0768792905ba6aebc38bfe201e8630d5b8e7ea6941d3132419e3781f3", func := "loop.example/pub-ziparchives/laws.FnWriteComment", spec := "fnWriteComment", unfollowed := true, recurses := true, named := ["loop.example/pub-ziparchives/pub/gozip.ErrAlgorithm", "unicode/utf8.first", "unicode/utf8.acceptRanges", "loop.example/pub-ziparchives/pub/gozip.errLongName", "loop.example/pub-ziparchives/pub/gozip.errLongExtra", "io.ErrShortWrite"], ifaces := true, apart := false, laid := [("unicode/utf8.acceptRanges", laid_unicode_utf8_acceptRanges), ("io.ErrShortWrite", laid_io_ErrShortWrite), ("loop.example/pub-ziparchives/pub/gozip.ErrAlgorithm", laid_loop_example_pub_ziparchives_pub_gozip_ErrAlgorithm), ("loop.example/pub-ziparchives/pub/gozip.errLongName", laid_loop_example_pub_ziparchives_pub_gozip_errLongName), ("loop.example/pub-ziparchives/pub/gozip.errLongExtra", laid_loop_example_pub_ziparchives_pub_gozip_errLongExtra), ("unicode/utf8.first", laid_unicode_utf8_first)] }
def FnWriteCommentSaid : Prop := fnWriteCommentRow.holds Tryd.pinned (OpenSpec.ofChange fnWriteCommentSpec)

/-- ITS FALSE NEIGHBOUR: 'it returns false'. Refute it at one input. -/
def fnWriteCommentWrong : ChangeSpec := { name := "fnWriteComment", vars := ["loop.example/pub-ziparchives/pub/gozip.ErrAlgorithm", "loop.example/pub-ziparchives/pub/gozip.errLongName", "loop.example/pub-ziparchives/pub/gozip.errLongExtra"], fn := fun _ => fun
  | [d, g1, g2, g3] => { results := [.lit (.bool false)], args := [d], vars := [g1, g2, g3] }
  | _ => none }
def FnWriteCommentWrongFalsely : Prop := fnWriteCommentRow.holds Tryd.pinned (OpenSpec.ofChange fnWriteCommentWrong)

/-- 'laws.FnWriteDirectory': WHATEVER THE INPUT: true; the input reads as it did. -/
def fnWriteDirectorySpec : ChangeSpec := { name := "fnWriteDirectory", vars := ["loop.example/pub-ziparchives/pub/gozip.ErrAlgorithm", "loop.example/pub-ziparchives/pub/gozip.errLongName", "loop.example/pub-ziparchives/pub/gozip.errLongExtra"], fn := fun _ => fun
  | [d1, d2, g1, g2, g3] => { results := [.lit (.bool true)], args := [d1, d2], vars := [g1, g2, g3] }
  | _ => none }
def fnWriteDirectoryRow : OpenClaim := { program := "ytkkdblifgekmkaadoor", sum := "b68c00e0768792905ba6aebc38bfe201e8630d5b8e7ea6941d3132419e3781f3", func := "loop.example/pub-ziparchives/laws.FnWriteDirectory", spec := "fnWriteDirectory", unfollowed := true, recurses := true, named := ["loop.example/pub-ziparchives/pub/gozip.ErrAlgorithm", "unicode/utf8.first", "unicode/utf8.acceptRanges", "loop.example/pub-ziparchives/pub/gozip.errLongName", "loop.example/pub-ziparchives/pub/gozip.errLongExtra", "io.ErrShortWrite"], ifaces := true, apart := false, laid := [("unicode/utf8.acceptRanges", laid_unicode_utf8_acceptRanges), ("io.ErrShortWrite", laid_io_ErrShortWrite), ("loop.example/pub-ziparchives/pub/gozip.ErrAlgorithm", laid_loop_example_pub_ziparchives_pub_gozip_ErrAlgorithm), ("loop.example/pub-ziparchives/pub/gozip.errLongName", laid_loop_example_pub_ziparchives_pub_gozip_errLongName), ("loop.example/pub-ziparchives/pub/gozip.errLongExtra", laid_loop_example_pub_ziparchives_pub_gozip_errLongExtra), ("unicode/utf8.first", laid_unicode_utf8_first)] }
def FnWriteDirectorySaid : Prop := fnWriteDirectoryRow.holds Tryd.pinned (OpenSpec.ofChange fnWriteDirectorySpec)

/-- ITS FALSE NEIGHBOUR: 'it returns false'. Refute it at one input. -/
def fnWriteDirectoryWrong : ChangeSpec := { name := "fnWriteDirectory", vars := ["loop.example/pub-ziparchives/pub/gozip.ErrAlgorithm", "loop.example/pub-ziparchives/pub/gozip.errLongName", "loop.example/pub-ziparchives/pub/gozip.errLongExtra"], fn := fun _ => fun
  | [d1, d2, g1, g2, g3] => { results := [.lit (.bool false)], args := [d1, d2], vars := [g1, g2, g3] }
  | _ => none }
def FnWriteDirectoryWrongFalsely : Prop := fnWriteDirectoryRow.holds Tryd.pinned (OpenSpec.ofChange fnWriteDirectoryWrong)

/-- 'laws.FnWriteScan': WHATEVER THE INPUT: true; the input reads as it did. -/
def fnWriteScanSpec : ChangeSpec := { name := "fnWriteScan", vars := ["loop.example/pub-ziparchives/pub/gozip.ErrAlgorithm", "loop.example/pub-ziparchives/pub/gozip.errLongName", "loop.example/pub-ziparchives/pub/gozip.errLongExtra"], fn := fun _ => fun
  | [d1, d2, g1, g2, g3] => { results := [.lit (.bool true)], args := [d1, d2], vars := [g1, g2, g3] }
  | _ => none }
def fnWriteScanRow : OpenClaim := { program := "ytkkdblifgekmkaadoor", sum := "b68c00e0768792905ba6aebc38bfe201e8630d5b8e7ea6941d3132419e3781f3", func := "loop.example/pub-ziparchives/laws.FnWriteScan", spec := "fnWriteScan", unfollowed := true, recurses := true, named := ["loop.example/pub-ziparchives/pub/gozip.ErrAlgorithm", "unicode/utf8.first", "unicode/utf8.acceptRanges", "loop.example/pub-ziparchives/pub/gozip.errLongName", "loop.example/pub-ziparchives/pub/gozip.errLongExtra", "io.ErrShortWrite"], ifaces := true, apart := false, laid := [("unicode/utf8.acceptRanges", laid_unicode_utf8_acceptRanges), ("io.ErrShortWrite", laid_io_ErrShortWrite), ("loop.example/pub-ziparchives/pub/gozip.ErrAlgorithm", laid_loop_example_pub_ziparchives_pub_gozip_ErrAlgorithm), ("loop.example/pub-ziparchives/pub/gozip.errLongName", laid_loop_example_pub_ziparchives_pub_gozip_errLongName), ("loop.example/pub-ziparchives/pub/gozip.errLongExtra", laid_loop_example_pub_ziparchives_pub_gozip_errLongExtra), ("unicode/utf8.first", laid_unicode_utf8_first)] }
def FnWriteScanSaid : Prop := fnWriteScanRow.holds Tryd.pinned (OpenSpec.ofChange fnWriteScanSpec)

/-- ITS FALSE NEIGHBOUR: 'it returns false'. Refute it at one input. -/
def fnWriteScanWrong : ChangeSpec := { name := "fnWriteScan", vars := ["loop.example/pub-ziparchives/pub/gozip.ErrAlgorithm", "loop.example/pub-ziparchives/pub/gozip.errLongName", "loop.example/pub-ziparchives/pub/gozip.errLongExtra"], fn := fun _ => fun
  | [d1, d2, g1, g2, g3] => { results := [.lit (.bool false)], args := [d1, d2], vars := [g1, g2, g3] }
  | _ => none }
def FnWriteScanWrongFalsely : Prop := fnWriteScanRow.holds Tryd.pinned (OpenSpec.ofChange fnWriteScanWrong)

/- THE SECOND FORM. 'bulk': how many values and letters a reading holds, each counted each time it is reached (what is shared counts as often as it is met; a slice's spare places count too). A statement '..UptoSaid' is the law's where the arguments, and the package variables that the reading takes, are together of bulk at most 1048576: NARROWER than '..Said'. Prove '..Said' where nothing that the law and all that it calls make is longer than what came in: it says more and counts as full. Else prove '..UptoSaid'. A law counts once. -/
mutual
def uptoBulk {H : Type} : DataW H → Nat
  | .lit (.string bytes) => bytes.length + 1
  | .lit _ => 1
  | .nil => 1
  | .ptr d => uptoBulk d + 1
  | .slice elems spare => uptoBulkAll elems + uptoBulkAll spare + 1
  | .agg parts => uptoBulkAll parts + 1
  | .iface _ d => uptoBulk d + 1
  | .map entries => uptoBulkEntries entries + 1
  | .held _ => 1
def uptoBulkAll {H : Type} : List (DataW H) → Nat
  | [] => 0
  | d :: r => uptoBulk d + uptoBulkAll r
def uptoBulkEntries {H : Type} : List (Lit × DataW H) → Nat
  | [] => 0
  | x :: r => uptoBulkEntry x + uptoBulkEntries r
def uptoBulkEntry {H : Type} : Lit × DataW H → Nat
  | (.string bytes, d) => bytes.length + uptoBulk d + 1
  | (_, d) => uptoBulk d + 1
 end
def uptoSmall : (H : Type) → List (DataW H) → Bool := fun _ ds => decide (uptoBulkAll ds ≤ 1048576)
def OpenSpec.upto (s : _root_.Go.ChangeSpec) : _root_.Go.OpenSpec := { _root_.Go.OpenSpec.ofChange s with cond := some uptoSmall }

/-- 'laws.FnEmpty', WHERE WHAT IT READS IS OF BULK AT MOST 1048576: true; the input reads as it did. -/
def fnEmptyUptoRow : OpenClaim := { program := "ytkkdblifgekmkaadoor", sum := "b68c00e0768792905ba6aebc38bfe201e8630d5b8e7ea6941d3132419e3781f3", func := "loop.example/pub-ziparchives/laws.FnEmpty", spec := "fnEmpty", unfollowed := true, recurses := true, named := ["loop.example/pub-ziparchives/pub/gozip.ErrInsecurePath", "loop.example/pub-ziparchives/pub/gozip.ErrFormat", "io.ErrUnexpectedEOF", "io.EOF", "io.ErrShortBuffer", "unicode/utf8.first", "unicode/utf8.acceptRanges", "io.errWhence", "io.errOffset"], ifaces := true, apart := false, laid := [("unicode/utf8.acceptRanges", laid_unicode_utf8_acceptRanges), ("io.ErrShortBuffer", laid_io_ErrShortBuffer), ("io.EOF", laid_io_EOF), ("io.ErrUnexpectedEOF", laid_io_ErrUnexpectedEOF), ("io.errWhence", laid_io_errWhence), ("io.errOffset", laid_io_errOffset), ("loop.example/pub-ziparchives/pub/gozip.ErrFormat", laid_loop_example_pub_ziparchives_pub_gozip_ErrFormat), ("loop.example/pub-ziparchives/pub/gozip.ErrInsecurePath", laid_loop_example_pub_ziparchives_pub_gozip_ErrInsecurePath), ("unicode/utf8.first", laid_unicode_utf8_first)], narrowed := true }
def FnEmptyUptoSaid : Prop := fnEmptyUptoRow.holds Tryd.pinned (OpenSpec.upto fnEmptySpec)

/-- 'laws.FnWriteComment', WHERE WHAT IT READS IS OF BULK AT MOST 1048576: true; the input reads as it did. -/
def fnWriteCommentUptoRow : OpenClaim := { program := "ytkkdblifgekmkaadoor", sum := "b68c00e0768792905ba6aebc38bfe201e8630d5b8e7ea6941d3132419e3781f3", func := "loop.example/pub-ziparchives/laws.FnWriteComment", spec := "fnWriteComment", unfollowed := true, recurses := true, named := ["loop.example/pub-ziparchives/pub/gozip.ErrAlgorithm", "unicode/utf8.first", "unicode/utf8.acceptRanges", "loop.example/pub-ziparchives/pub/gozip.errLongName", "loop.example/pub-ziparchives/pub/gozip.errLongExtra", "io.ErrShortWrite"], ifaces := true, apart := false, laid := [("unicode/utf8.acceptRanges", laid_unicode_utf8_acceptRanges), ("io.ErrShortWrite", laid_io_ErrShortWrite), ("loop.example/pub-ziparchives/pub/gozip.ErrAlgorithm", laid_loop_example_pub_ziparchives_pub_gozip_ErrAlgorithm), ("loop.example/pub-ziparchives/pub/gozip.errLongName", laid_loop_example_pub_ziparchives_pub_gozip_errLongName), ("loop.example/pub-ziparchives/pub/gozip.errLongExtra", laid_loop_example_pub_ziparchives_pub_gozip_errLongExtra), ("unicode/utf8.first", laid_unicode_utf8_first)], narrowed := true }
def FnWriteCommentUptoSaid : Prop := fnWriteCommentUptoRow.holds Tryd.pinned (OpenSpec.upto fnWriteCommentSpec)

/-- 'laws.FnWriteDirectory', WHERE WHAT IT READS IS OF BULK AT MOST 1048576: true; the input reads as it did. -/
def fnWriteDirectoryUptoRow : OpenClaim := { program := "ytkkdblifgekmkaadoor", sum := "b68c00e0768792905ba6aebc38bfe201e8630d5b8e7ea6941d3132419e3781f3", func := "loop.example/pub-ziparchives/laws.FnWriteDirectory", spec := "fnWriteDirectory", unfollowed := true, recurses := true, named := ["loop.example/pub-ziparchives/pub/gozip.ErrAlgorithm", "unicode/utf8.first", "unicode/utf8.acceptRanges", "loop.example/pub-ziparchives/pub/gozip.errLongName", "loop.example/pub-ziparchives/pub/gozip.errLongExtra", "io.ErrShortWrite"], ifaces := true, apart := false, laid := [("unicode/utf8.acceptRanges", laid_unicode_utf8_acceptRanges), ("io.ErrShortWrite", laid_io_ErrShortWrite), ("loop.example/pub-ziparchives/pub/gozip.ErrAlgorithm", laid_loop_example_pub_ziparchives_pub_gozip_ErrAlgorithm), ("loop.example/pub-ziparchives/pub/gozip.errLongName", laid_loop_example_pub_ziparchives_pub_gozip_errLongName), ("loop.example/pub-ziparchives/pub/gozip.errLongExtra", laid_loop_example_pub_ziparchives_pub_gozip_errLongExtra), ("unicode/utf8.first", laid_unicode_utf8_first)], narrowed := true }
def FnWriteDirectoryUptoSaid : Prop := fnWriteDirectoryUptoRow.holds Tryd.pinned (OpenSpec.upto fnWriteDirectorySpec)

/-- 'laws.FnWriteScan', WHERE WHAT IT READS IS OF BULK AT MOST 1048576: true; the input reads as it did. -/
def fnWriteScanUptoRow : OpenClaim := { program := "ytkkdblifgekmkaadoor", sum := "b68c00e0768792905ba6aebc38bfe201e8630d5b8e7ea6941d3132419e3781f3", func := "loop.example/pub-ziparchives/laws.FnWriteScan", spec := "fnWriteScan", unfollowed := true, recurses := true, named := ["loop.example/pub-ziparchives/pub/gozip.ErrAlgorithm", "unicode/utf8.first", "unicode/utf8.acceptRanges", "loop.example/pub-ziparchives/pub/gozip.errLongName", "loop.example/pub-ziparchives/pub/gozip.errLongExtra", "io.ErrShortWrite"], ifaces := true, apart := false, laid := [("unicode/utf8.acceptRanges", laid_unicode_utf8_acceptRanges), ("io.ErrShortWrite", laid_io_ErrShortWrite), ("loop.example/pub-ziparchives/pub/gozip.ErrAlgorithm", laid_loop_example_pub_ziparchives_pub_gozip_ErrAlgorithm), ("loop.example/pub-ziparchives/pub/gozip.errLongName", laid_loop_example_pub_ziparchives_pub_gozip_errLongName), ("loop.example/pub-ziparchives/pub/gozip.errLongExtra", laid_loop_example_pub_ziparchives_pub_gozip_errLongExtra), ("unicode/utf8.first", laid_unicode_utf8_first)], narrowed := true }
def FnWriteScanUptoSaid : Prop := fnWriteScanUptoRow.holds Tryd.pinned (OpenSpec.upto fnWriteScanSpec)

end Rows
end Go.Proofs.YtkkdblifgekmkaaDoor
