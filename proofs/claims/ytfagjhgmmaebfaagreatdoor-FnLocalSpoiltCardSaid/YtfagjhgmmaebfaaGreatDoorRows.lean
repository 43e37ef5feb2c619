/-
  NARROWER THAN 'FOR EVERY INPUT', by the rows' own cells (each row's printed sentence says how): FnLocalSpoilt: ifaces, laid.
  DERIVED. THE GIVEN ROWS OF THIS SEAT. 1 by the template 'for every input the law returns true; each argument reads behind the call as it read before'; 0 by the template 'total and deterministic' (their statements: YtfagjhgmmaebfaaGreatDoorTotals.lean).
  GIVEN WITH THE SEED: the statements are not yours to turn. If you find one false, say at which input.
  Laid BY PROGRAM, IN A SANDBOX (cutbox-rows.mjs): the forced cells as the released guide's own fill.sh prints them over the translation f9ea848f9599f129… (all of the seat's roots in one cut). By AI agents, Wed Nov 11 2026. No macro, syntax, notation, axiom, sorry.
-/
import Derived.Test.YtfagjhgmmaebfaaGreatDoorChecked
import GoSem.PinnedTables
import GoSem.Claim
import GoSem.ClaimJoined
import GoSem.ClaimMapViews
import Derived.JoinedTies
import Derived.KernelRfl
namespace Go.Proofs.YtfagjhgmmaebfaaGreatDoor
/- THE CELL 'sum', in the pinned program and in every row, IS THE sha256 OF THE DUMP (.gsa) THAT YtfagjhgmmaebfaaGreatDoorProg.lean LOADS. Nothing in Lean hashes anything: it is a label: what it is worth is what the hold of that sum in a sandbox is worth. -/
noncomputable def Tryz.pinned : Pinned := { name := "ytfagjhgmmaebfaagreatdoor", sum := "f9ea848f9599f129dd193678ec9abdd10517c9e87f93bb91e2a498ad44a753a5", checked := Tryz.checked }
namespace Rows
def none {H : Type} : Left H := { results := [], args := [] }

/- WHAT THE LISTED PACKAGE-LEVEL VARIABLES READ AS WHEN THE CALL BEGINS. Each datum BY PROGRAM (the guide's laid-datum.mjs) off the statement by which the dump's own 'gosem.cut.vars' lays the variable. In a bare row this is a premise. The card (YtfagjhgmmaebfaaGreatDoorCards.lean) ties it to the program's text. -/
def laid_unicode_utf8_acceptRanges {H : Type} : DataW H := .agg [.agg [.lit (.int .u8 128), .lit (.int .u8 191)], .agg [.lit (.int .u8 160), .lit (.int .u8 191)], .agg [.lit (.int .u8 128), .lit (.int .u8 159)], .agg [.lit (.int .u8 144), .lit (.int .u8 191)], .agg [.lit (.int .u8 128), .lit (.int .u8 143)], .agg [.lit (.int .u8 0), .lit (.int .u8 0)], .agg [.lit (.int .u8 0), .lit (.int .u8 0)], .agg [.lit (.int .u8 0), .lit (.int .u8 0)], .agg [.lit (.int .u8 0), .lit (.int .u8 0)], .agg [.lit (.int .u8 0), .lit (.int .u8 0)], .agg [.lit (.int .u8 0), .lit (.int .u8 0)], .agg [.lit (.int .u8 0), .lit (.int .u8 0)], .agg [.lit (.int .u8 0), .lit (.int .u8 0)], .agg [.lit (.int .u8 0), .lit (.int .u8 0)], .agg [.lit (.int .u8 0), .lit (.int .u8 0)], .agg [.lit (.int .u8 0), .lit (.int .u8 0)]]
def laid_io_ErrShortBuffer {H : Type} : DataW H := .iface "*errors.errorString" (.ptr (.agg [.lit (.string [115, 104, 111, 114, 116, 32, 98, 117, 102, 102, 101, 114])]))
def laid_io_EOF {H : Type} : DataW H := .iface "*errors.errorString" (.ptr (.agg [.lit (.string [69, 79, 70])]))
def laid_io_ErrUnexpectedEOF {H : Type} : DataW H := .iface "*errors.errorString" (.ptr (.agg [.lit (.string [117, 110, 101, 120, 112, 101, 99, 116, 101, 100, 32, 69, 79, 70])]))
def laid_io_errWhence {H : Type} : DataW H := .iface "*errors.errorString" (.ptr (.agg [.lit (.string [83, 101, 101, 107, 58, 32, 105, 110, 118, 97, 108, 105, 100, 32, 119, 104, 101, 110, 99, 101])]))
def laid_io_errOffset {H : Type} : DataW H := .iface "*errors.errorString" (.ptr (.agg [.lit (.string [83, 101, 101, 107, 58, 32, 105, 110, 118, 97, 108, 105, 100, 32, 111, 102, 102, 115, 101, 116])]))
def laid_loop_example_pub_ziparchives_pub_gozip_ErrFormat {H : Type} : DataW H := .iface "*errors.errorString" (.ptr (.agg [.lit (.string [122, 105, 112, 58, 32, 110, 111, 116, 32, 97, 32, 118, 97, 108, 105, 100, 32, 122, 105, 112, 32, 102, 105, 108, 101])]))
def laid_loop_example_pub_ziparchives_pub_gozip_ErrAlgorithm {H : Type} : DataW H := .iface "*errors.errorString" (.ptr (.agg [.lit (.string [122, 105, 112, 58, 32, 117, 110, 115, 117, 112, 112, 111, 114, 116, 101, 100, 32, 99, 111, 109, 112, 114, 101, 115, 115, 105, 111, 110, 32, 97, 108, 103, 111, 114, 105, 116, 104, 109])]))
def laid_loop_example_pub_ziparchives_pub_gozip_ErrChecksum {H : Type} : DataW H := .iface "*errors.errorString" (.ptr (.agg [.lit (.string [122, 105, 112, 58, 32, 99, 104, 101, 99, 107, 115, 117, 109, 32, 101, 114, 114, 111, 114])]))
def laid_loop_example_pub_ziparchives_pub_gozip_ErrInsecurePath {H : Type} : DataW H := .iface "*errors.errorString" (.ptr (.agg [.lit (.string [122, 105, 112, 58, 32, 105, 110, 115, 101, 99, 117, 114, 101, 32, 102, 105, 108, 101, 32, 112, 97, 116, 104])]))
/-- One of Go's own tables, pinned by name: the form's constant. -/
def laid_unicode_utf8_first : DataW Unit := Go.Pinned.utf8First

/-- 'laws.FnLocalSpoilt': WHATEVER THE INPUT: true; the input reads as it did. -/
def fnLocalSpoiltSpec : ChangeSpec := { name := "fnLocalSpoilt", vars := ["loop.example/pub-ziparchives/pub/gozip.ErrInsecurePath", "loop.example/pub-ziparchives/pub/gozip.ErrFormat", "loop.example/pub-ziparchives/pub/gozip.ErrAlgorithm", "loop.example/pub-ziparchives/pub/gozip.ErrChecksum"], fn := fun _ => fun
  | [d1, d2, d3, d4, d5, g1, g2, g3, g4] => { results := [.lit (.bool true)], args := [d1, d2, d3, d4, d5], vars := [g1, g2, g3, g4] }
  | _ => none }
def fnLocalSpoiltRow : OpenClaim := { program := "ytfagjhgmmaebfaagreatdoor", sum := "f9ea848f9599f129dd193678ec9abdd10517c9e87f93bb91e2a498ad44a753a5", func := "loop.example/pub-ziparchives/laws.FnLocalSpoilt", spec := "fnLocalSpoilt", unfollowed := true, recurses := true, named := ["loop.example/pub-ziparchives/pub/gozip.ErrInsecurePath", "loop.example/pub-ziparchives/pub/gozip.ErrFormat", "io.ErrUnexpectedEOF", "io.EOF", "io.ErrShortBuffer", "unicode/utf8.first", "unicode/utf8.acceptRanges", "io.errWhence", "io.errOffset", "loop.example/pub-ziparchives/pub/gozip.ErrAlgorithm", "loop.example/pub-ziparchives/pub/gozip.ErrChecksum"], ifaces := true, apart := false, laid := [("unicode/utf8.acceptRanges", laid_unicode_utf8_acceptRanges), ("io.ErrShortBuffer", laid_io_ErrShortBuffer), ("io.EOF", laid_io_EOF), ("io.ErrUnexpectedEOF", laid_io_ErrUnexpectedEOF), ("io.errWhence", laid_io_errWhence), ("io.errOffset", laid_io_errOffset), ("loop.example/pub-ziparchives/pub/gozip.ErrFormat", laid_loop_example_pub_ziparchives_pub_gozip_ErrFormat), ("loop.example/pub-ziparchives/pub/gozip.ErrAlgorithm", laid_loop_example_pub_ziparchives_pub_gozip_ErrAlgorithm), ("loop.example/pub-ziparchives/pub/gozip.ErrChecksum", laid_loop_example_pub_ziparchives_pub_gozip_ErrChecksum), ("loop.example/pub-ziparchives/pub/gozip.ErrInsecurePath", laid_loop_example_pub_ziparchives_pub_gozip_ErrInsecurePath), ("unicode/utf8.first", laid_unicode_utf8_first)] }
def FnLocalSpoiltSaid : Prop := fnLocalSpoiltRow.holds Tryz.pinned (OpenSpec.ofChange fnLocalSpoiltSpec)

/-- ITS FALSE NEIGHBOUR: 'it returns false'. Refute it at one input. -/
def fnLocalSpoiltWrong : ChangeSpec := { name := "fnLocalSpoilt", vars := ["loop.example/pub-ziparchives/pub/gozip.ErrInsecurePath", "loop.example/pub-ziparchives/pub/gozip.ErrFormat", "loop.example/pub-ziparchives/pub/gozip.ErrAlgorithm", "loop.example/pub-ziparchives/pub/gozip.ErrChecksum"], fn := fun _ => fun
  | [d1, d2, d3, d4, d5, g1, g2, g3, g4] => { results := [.lit (.bool false)], args := [d1, d2, d3, d4, d5], vars := [g1, g2, g3, g4] }
  | _ => none }
def FnLocalSpoiltWrongFalsely : Prop := fnLocalSpoiltRow.holds Tryz.pinned (OpenSpec.ofChange fnLocalSpoiltWrong)

/- THE SECOND FORM. 'bulk': how many values and letters a reading holds, each counted each time it is reached (what is shared counts as often as it is met; a slice's spare places count too). A statement '..UptoSaid' is the law's where the arguments, and the package variables that the reading takes, are together of bulk at most 1048576: NARROWER than '..Said'. Prove '..Said' where nothing that the law and all that it calls make is longer than what came in: it says more and counts as full. Else prove '..UptoSaid'. A law counts once. -/
mutual
def uptoBulk {H : Type} : DataW H → Nat
  | .lit (.string bytes) => bytes.length + 1
  | .lit _ => 1
  | .nil => 1
  | .ptr d => uptoBulk d + 1
  | .slice elems spare => uptoBulkAll elems + uptoBulkAll spare + 1
  | .agg parts => uptoBulkAll parts + 1
  | .iface _ d => uptoBulk d + 1
  | .map entries => uptoBulkEntries entries + 1
  | .held _ => 1
def uptoBulkAll {H : Type} : List (DataW H) → Nat
  | [] => 0
  | d :: r => uptoBulk d + uptoBulkAll r
def uptoBulkEntries {H : Type} : List (Lit × DataW H) → Nat
  | [] => 0
  | x :: r => uptoBulkEntry x + uptoBulkEntries r
def uptoBulkEntry {H : Type} : Lit × DataW H → Nat
  | (.string bytes, d) => bytes.length + uptoBulk d + 1
  | (_, d) => uptoBulk d + 1
 end
def uptoSmall : (H : Type) → List (DataW H) → Bool := fun _ ds => decide (uptoBulkAll ds ≤ 1048576)
def OpenSpec.upto (s : _root_.Go.ChangeSpec) : _root_.Go.OpenSpec := { _root_.Go.OpenSpec.ofChange s with cond := some uptoSmall }

/-- 'laws.FnLocalSpoilt', WHERE WHAT IT READS IS OF BULK AT MOST 1048576: true; the input reads as it did. -/
def fnLocalSpoiltUptoRow : OpenClaim := { program := "ytfagjhgmmaebfaagreatdoor", sum := "f9ea848f9599f129dd193678ec9abdd10517c9e87f93bb91e2a498ad44a753a5", func := "loop.example/pub-ziparchives/laws.FnLocalSpoilt", spec := "fnLocalSpoilt", unfollowed := true, recurses := true, named := ["loop.example/pub-ziparchives/pub/gozip.ErrInsecurePath", "loop.example/pub-ziparchives/pub/gozip.ErrFormat", "io.ErrUnexpectedEOF", "io.EOF", "io.ErrShortBuffer", "unicode/utf8.first", "unicode/utf8.acceptRanges", "io.errWhence", "io.errOffset", "loop.example/pub-ziparchives/pub/gozip.ErrAlgorithm", "loop.example/pub-ziparchives/pub/gozip.ErrChecksum"], ifaces := true, apart := false, laid := [("unicode/utf8.acceptRanges", laid_unicode_utf8_acceptRanges), ("io.ErrShortBuffer", laid_io_ErrShortBuffer), ("io.EOF", laid_io_EOF), ("io.ErrUnexpectedEOF", laid_io_ErrUnexpectedEOF), ("io.errWhence", laid_io_errWhence), ("io.errOffset", laid_io_errOffset), ("loop.example/pub-ziparchives/pub/gozip.ErrFormat", laid_loop_example_pub_ziparchives_pub_gozip_ErrFormat), ("loop.example/pub-ziparchives/pub/gozip.ErrAlgorithm", laid_loop_example_pub_ziparchives_pub_gozip_ErrAlgorithm), ("loop.example/pub-ziparchives/pub/gozip.ErrChecksum", laid_loop_example_pub_ziparchives_pub_gozip_ErrChecksum), ("loop.example/pub-ziparchives/pub/gozip.ErrInsecurePath", laid_loop_example_pub_ziparchives_pub_gozip_ErrInsecurePath), ("unicode/utf8.first", laid_unicode_utf8_first)], narrowed := true }
def FnLocalSpoiltUptoSaid : Prop := fnLocalSpoiltUptoRow.holds Tryz.pinned (OpenSpec.upto fnLocalSpoiltSpec)

end Rows
end Go.Proofs.YtfagjhgmmaebfaaGreatDoor
