/-
  No cell of these rows narrows 'for every input' (looked for: loops, veiled, ifaces, maps, wideKeys, modest, calm, conditions, laid).
  DERIVED. THE GIVEN ROWS OF THIS SEAT. 6 by the template 'for every input the law returns true; each argument reads behind the call as it read before'; 0 by the template 'total and deterministic' (their statements: YtdnijpehlahdnaaTotals.lean).
  GIVEN WITH THE SEED: the statements are not yours to turn. If you find one false, say at which input.
  Laid BY PROGRAM, IN A SANDBOX (cutbox-rows.mjs): the forced cells as the released guide's own fill.sh prints them over the translation 0d6f8145e8f83f06… (all of the seat's roots in one cut). By AI agents, Wed Nov 11 2026. No macro, syntax, notation, axiom, sorry.
-/
import Derived.Test.YtdnijpehlahdnaaChecked
import GoSem.Claim
import GoSem.ClaimJoined
import GoSem.ClaimMapViews
import Derived.JoinedTies
import Derived.KernelRfl
namespace Go.Proofs.Ytdnijpehlahdnaa
/- THE CELL 'sum', in the pinned program and in every row, IS THE sha256 OF THE DUMP (.gsa) THAT YtdnijpehlahdnaaProg.lean LOADS. Nothing in Lean hashes anything: it is a label: what it is worth is what the hold of that sum in a sandbox is worth. -/
noncomputable def Try.pinned : Pinned := { name := "ytdnijpehlahdnaa", sum := "0d6f8145e8f83f06778976c9e62171582361f0dd49e2688af4e40f084d2f3760", checked := Try.checked }
namespace Rows
def none {H : Type} : Left H := { results := [], args := [] }

/-- 'laws.FnExactFind': WHATEVER THE INPUT: true; the input reads as it did. -/
def fnExactFindSpec : ChangeSpec := { name := "fnExactFind", fn := fun _ => fun
  | [d1, d2, d3] => { results := [.lit (.bool true)], args := [d1, d2, d3] }
  | _ => none }
def fnExactFindRow : OpenClaim := { program := "ytdnijpehlahdnaa", sum := "0d6f8145e8f83f06778976c9e62171582361f0dd49e2688af4e40f084d2f3760", func := "loop.example/pub-ziparchives/laws.FnExactFind", spec := "fnExactFind", apart := false }
def FnExactFindSaid : Prop := fnExactFindRow.holds Try.pinned (OpenSpec.ofChange fnExactFindSpec)

/-- ITS FALSE NEIGHBOUR: 'it returns false'. Refute it at one input. -/
def fnExactFindWrong : ChangeSpec := { name := "fnExactFind", fn := fun _ => fun
  | [d1, d2, d3] => { results := [.lit (.bool false)], args := [d1, d2, d3] }
  | _ => none }
def FnExactFindWrongFalsely : Prop := fnExactFindRow.holds Try.pinned (OpenSpec.ofChange fnExactFindWrong)

/-- 'laws.FnExactDosMode': WHATEVER THE INPUT: true; the input reads as it did. -/
def fnExactDosModeSpec : ChangeSpec := { name := "fnExactDosMode", fn := fun _ => fun
  | [d] => { results := [.lit (.bool true)], args := [d] }
  | _ => none }
def fnExactDosModeRow : OpenClaim := { program := "ytdnijpehlahdnaa", sum := "0d6f8145e8f83f06778976c9e62171582361f0dd49e2688af4e40f084d2f3760", func := "loop.example/pub-ziparchives/laws.FnExactDosMode", spec := "fnExactDosMode", apart := false }
def FnExactDosModeSaid : Prop := fnExactDosModeRow.holds Try.pinned (OpenSpec.ofChange fnExactDosModeSpec)

/-- ITS FALSE NEIGHBOUR: 'it returns false'. Refute it at one input. -/
def fnExactDosModeWrong : ChangeSpec := { name := "fnExactDosMode", fn := fun _ => fun
  | [d] => { results := [.lit (.bool false)], args := [d] }
  | _ => none }
def FnExactDosModeWrongFalsely : Prop := fnExactDosModeRow.holds Try.pinned (OpenSpec.ofChange fnExactDosModeWrong)

/-- 'laws.FnModeDOS': WHATEVER THE INPUT: true; the input reads as it did. -/
def fnModeDOSSpec : ChangeSpec := { name := "fnModeDOS", fn := fun _ => fun
  | [d1, d2] => { results := [.lit (.bool true)], args := [d1, d2] }
  | _ => none }
def fnModeDOSRow : OpenClaim := { program := "ytdnijpehlahdnaa", sum := "0d6f8145e8f83f06778976c9e62171582361f0dd49e2688af4e40f084d2f3760", func := "loop.example/pub-ziparchives/laws.FnModeDOS", spec := "fnModeDOS", apart := false }
def FnModeDOSSaid : Prop := fnModeDOSRow.holds Try.pinned (OpenSpec.ofChange fnModeDOSSpec)

/-- ITS FALSE NEIGHBOUR: 'it returns false'. Refute it at one input. -/
def fnModeDOSWrong : ChangeSpec := { name := "fnModeDOS", fn := fun _ => fun
  | [d1, d2] => { results := [.lit (.bool false)], args := [d1, d2] }
  | _ => none }
def FnModeDOSWrongFalsely : Prop := fnModeDOSRow.holds Try.pinned (OpenSpec.ofChange fnModeDOSWrong)

/-- 'laws.FnModeDirectory': WHATEVER THE INPUT: true; the input reads as it did. -/
def fnModeDirectorySpec : ChangeSpec := { name := "fnModeDirectory", fn := fun _ => fun
  | [d1, d2, d3] => { results := [.lit (.bool true)], args := [d1, d2, d3] }
  | _ => none }
def fnModeDirectoryRow : OpenClaim := { program := "ytdnijpehlahdnaa", sum := "0d6f8145e8f83f06778976c9e62171582361f0dd49e2688af4e40f084d2f3760", func := "loop.example/pub-ziparchives/laws.FnModeDirectory", spec := "fnModeDirectory", apart := false }
def FnModeDirectorySaid : Prop := fnModeDirectoryRow.holds Try.pinned (OpenSpec.ofChange fnModeDirectorySpec)

/-- ITS FALSE NEIGHBOUR: 'it returns false'. Refute it at one input. -/
def fnModeDirectoryWrong : ChangeSpec := { name := "fnModeDirectory", fn := fun _ => fun
  | [d1, d2, d3] => { results := [.lit (.bool false)], args := [d1, d2, d3] }
  | _ => none }
def FnModeDirectoryWrongFalsely : Prop := fnModeDirectoryRow.holds Try.pinned (OpenSpec.ofChange fnModeDirectoryWrong)

/-- 'laws.FnUnixModeBack': WHATEVER THE INPUT: true; the input reads as it did. -/
def fnUnixModeBackSpec : ChangeSpec := { name := "fnUnixModeBack", fn := fun _ => fun
  | [d] => { results := [.lit (.bool true)], args := [d] }
  | _ => none }
def fnUnixModeBackRow : OpenClaim := { program := "ytdnijpehlahdnaa", sum := "0d6f8145e8f83f06778976c9e62171582361f0dd49e2688af4e40f084d2f3760", func := "loop.example/pub-ziparchives/laws.FnUnixModeBack", spec := "fnUnixModeBack", apart := false }
def FnUnixModeBackSaid : Prop := fnUnixModeBackRow.holds Try.pinned (OpenSpec.ofChange fnUnixModeBackSpec)

/-- ITS FALSE NEIGHBOUR: 'it returns false'. Refute it at one input. -/
def fnUnixModeBackWrong : ChangeSpec := { name := "fnUnixModeBack", fn := fun _ => fun
  | [d] => { results := [.lit (.bool false)], args := [d] }
  | _ => none }
def FnUnixModeBackWrongFalsely : Prop := fnUnixModeBackRow.holds Try.pinned (OpenSpec.ofChange fnUnixModeBackWrong)

/-- 'laws.FnModeBack': WHATEVER THE INPUT: true; the input reads as it did. -/
def fnModeBackSpec : ChangeSpec := { name := "fnModeBack", fn := fun _ => fun
  | [d] => { results := [.lit (.bool true)], args := [d] }
  | _ => none }
def fnModeBackRow : OpenClaim := { program := "ytdnijpehlahdnaa", sum := "0d6f8145e8f83f06778976c9e62171582361f0dd49e2688af4e40f084d2f3760", func := "loop.example/pub-ziparchives/laws.FnModeBack", spec := "fnModeBack", apart := false }
def FnModeBackSaid : Prop := fnModeBackRow.holds Try.pinned (OpenSpec.ofChange fnModeBackSpec)

/-- ITS FALSE NEIGHBOUR: 'it returns false'. Refute it at one input. -/
def fnModeBackWrong : ChangeSpec := { name := "fnModeBack", fn := fun _ => fun
  | [d] => { results := [.lit (.bool false)], args := [d] }
  | _ => none }
def FnModeBackWrongFalsely : Prop := fnModeBackRow.holds Try.pinned (OpenSpec.ofChange fnModeBackWrong)

/- THE SECOND FORM. 'bulk': how many values and letters a reading holds, each counted each time it is reached (what is shared counts as often as it is met; a slice's spare places count too). A statement '..UptoSaid' is the law's where the arguments, and the package variables that the reading takes, are together of bulk at most 1048576: NARROWER than '..Said'. Prove '..Said' where nothing that the law and all that it calls make is longer than what came in: it says more and counts as full. Else prove '..UptoSaid'. A law counts once. -/
mutual
def uptoBulk {H : Type} : DataW H → Nat
  | .lit (.string bytes) => bytes.length + 1
  | .lit _ => 1
  | .nil => 1
  | .ptr d => uptoBulk d + 1
  | .slice elems spare => uptoBulkAll elems + uptoBulkAll spare + 1
  | .agg parts => uptoBulkAll parts + 1
  | .iface _ d => uptoBulk d + 1
  | .map entries => uptoBulkEntries entries + 1
  | .held _ => 1
def uptoBulkAll {H : Type} : List (DataW H) → Nat
  | [] => 0
  | d :: r => uptoBulk d + uptoBulkAll r
def uptoBulkEntries {H : Type} : List (Lit × DataW H) → Nat
  | [] => 0
  | x :: r => uptoBulkEntry x + uptoBulkEntries r
def uptoBulkEntry {H : Type} : Lit × DataW H → Nat
  | (.string bytes, d) => bytes.length + uptoBulk d + 1
  | (_, d) => uptoBulk d + 1
 end
def uptoSmall : (H : Type) → List (DataW H) → Bool := fun _ ds => decide (uptoBulkAll ds ≤ 1048576)
def OpenSpec.upto (s : _root_.Go.ChangeSpec) : _root_.Go.OpenSpec := { _root_.Go.OpenSpec.ofChange s with cond := some uptoSmall }

/-- 'laws.FnExactFind', WHERE WHAT IT READS IS OF BULK AT MOST 1048576: true; the input reads as it did. -/
def fnExactFindUptoRow : OpenClaim := { program := "ytdnijpehlahdnaa", sum := "0d6f8145e8f83f06778976c9e62171582361f0dd49e2688af4e40f084d2f3760", func := "loop.example/pub-ziparchives/laws.FnExactFind", spec := "fnExactFind", apart := false, narrowed := true }
def FnExactFindUptoSaid : Prop := fnExactFindUptoRow.holds Try.pinned (OpenSpec.upto fnExactFindSpec)

/-- 'laws.FnExactDosMode', WHERE WHAT IT READS IS OF BULK AT MOST 1048576: true; the input reads as it did. -/
def fnExactDosModeUptoRow : OpenClaim := { program := "ytdnijpehlahdnaa", sum := "0d6f8145e8f83f06778976c9e62171582361f0dd49e2688af4e40f084d2f3760", func := "loop.example/pub-ziparchives/laws.FnExactDosMode", spec := "fnExactDosMode", apart := false, narrowed := true }
def FnExactDosModeUptoSaid : Prop := fnExactDosModeUptoRow.holds Try.pinned (OpenSpec.upto fnExactDosModeSpec)

/-- 'laws.FnModeDOS', WHERE WHAT IT READS IS OF BULK AT MOST 1048576: true; the input reads as it did. -/
def fnModeDOSUptoRow : OpenClaim := { program := "ytdnijpehlahdnaa", sum := "0d6f8145e8f83f06778976c9e62171582361f0dd49e2688af4e40f084d2f3760", func := "loop.example/pub-ziparchives/laws.FnModeDOS", spec := "fnModeDOS", apart := false, narrowed := true }
def FnModeDOSUptoSaid : Prop := fnModeDOSUptoRow.holds Try.pinned (OpenSpec.upto fnModeDOSSpec)

/-- 'laws.FnModeDirectory', WHERE WHAT IT READS IS OF BULK AT MOST 1048576: true; the input reads as it did. -/
def fnModeDirectoryUptoRow : OpenClaim := { program := "ytdnijpehlahdnaa", sum := "0d6f8145e8f83f06778976c9e62171582361f0dd49e2688af4e40f084d2f3760", func := "loop.example/pub-ziparchives/laws.FnModeDirectory", spec := "fnModeDirectory", apart := false, narrowed := true }
def FnModeDirectoryUptoSaid : Prop := fnModeDirectoryUptoRow.holds Try.pinned (OpenSpec.upto fnModeDirectorySpec)

/-- 'laws.FnUnixModeBack', WHERE WHAT IT READS IS OF BULK AT MOST 1048576: true; the input reads as it did. -/
def fnUnixModeBackUptoRow : OpenClaim := { program := "ytdnijpehlahdnaa", sum := "0d6f8145e8f83f06778976c9e62171582361f0dd49e2688af4e40f084d2f3760", func := "loop.example/pub-ziparchives/laws.FnUnixModeBack", spec := "fnUnixModeBack", apart := false, narrowed := true }
def FnUnixModeBackUptoSaid : Prop := fnUnixModeBackUptoRow.holds Try.pinned (OpenSpec.upto fnUnixModeBackSpec)

/-- 'laws.FnModeBack', WHERE WHAT IT READS IS OF BULK AT MOST 1048576: true; the input reads as it did. -/
def fnModeBackUptoRow : OpenClaim := { program := "ytdnijpehlahdnaa", sum := "0d6f8145e8f83f06778976c9e62171582361f0dd49e2688af4e40f084d2f3760", func := "loop.example/pub-ziparchives/laws.FnModeBack", spec := "fnModeBack", apart := false, narrowed := true }
def FnModeBackUptoSaid : Prop := fnModeBackUptoRow.holds Try.pinned (OpenSpec.upto fnModeBackSpec)

end Rows
end Go.Proofs.Ytdnijpehlahdnaa
