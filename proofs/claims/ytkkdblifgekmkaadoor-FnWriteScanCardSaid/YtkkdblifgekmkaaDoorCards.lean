/-
  DERIVED. GIVEN WITH THE SEED: THE CARDS: each row of YtkkdblifgekmkaaDoorRows.lean that lists a variable, with what it lists TIED to the program's text (the seventh form; the later family's looks); each row that meets fmt, with fmt's text TOLD by the authors' own Lean function (tested against real Go, not proved from fmt's source: count such statements apart). THE CARD IS WHAT COUNTS. Prove the row's statement (the work); the ties are given (YtkkdblifgekmkaaDoorTie.lean); close each card by the builder's one call (the guide's Derived/Test/ToyasCard.lean, 'card_holds'). Laid BY PROGRAM, IN A SANDBOX (cutbox-door.mjs). By AI agents, Wed Nov 11 2026. No macro, syntax, notation, axiom, sorry.
-/
import Derived.Test.YtkkdblifgekmkaaDoorRows
import GoSem.ClaimSeven
namespace Go.Proofs.YtkkdblifgekmkaaDoor
namespace Rows

/-- THE TIED CARD OF 'laws.FnEmpty'. -/
def fnEmptyCard : Claim7 := { stood := { row := fnEmptyRow, standIns := [], harness := (true, "e23a2148ee275691eb6c008bfd15bfe2919ea129f0fbf331d2f4399ebe09324a"), looks := true }, kinds := [], alts := [], laidByText := true, laidKinds := [.data, .sentinel, .sentinel, .sentinel, .sentinel, .sentinel, .sentinel, .sentinel, .pinned], laidTests := true, laidLooks := .later }
def FnEmptyCardSaid : Prop := Claim7.holds Tryd.pinned (.plain (OpenSpec.ofChange fnEmptySpec)) fnEmptyCard

/-- THE TIED CARD OF 'laws.FnWriteComment'. -/
def fnWriteCommentCard : Claim7 := { stood := { row := fnWriteCommentRow, standIns := [], harness := (true, "e23a2148ee275691eb6c008bfd15bfe2919ea129f0fbf331d2f4399ebe09324a"), looks := true }, kinds := [], alts := [], laidByText := true, laidKinds := [.data, .sentinel, .sentinel, .sentinel, .sentinel, .pinned], laidTests := true, laidLooks := .later }
def FnWriteCommentCardSaid : Prop := Claim7.holds Tryd.pinned (.plain (OpenSpec.ofChange fnWriteCommentSpec)) fnWriteCommentCard

/-- THE TIED CARD OF 'laws.FnWriteDirectory'. -/
def fnWriteDirectoryCard : Claim7 := { stood := { row := fnWriteDirectoryRow, standIns := [], harness := (true, "e23a2148ee275691eb6c008bfd15bfe2919ea129f0fbf331d2f4399ebe09324a"), looks := true }, kinds := [], alts := [], laidByText := true, laidKinds := [.data, .sentinel, .sentinel, .sentinel, .sentinel, .pinned], laidTests := true, laidLooks := .later }
def FnWriteDirectoryCardSaid : Prop := Claim7.holds Tryd.pinned (.plain (OpenSpec.ofChange fnWriteDirectorySpec)) fnWriteDirectoryCard

/-- THE TIED CARD OF 'laws.FnWriteScan'. -/
def fnWriteScanCard : Claim7 := { stood := { row := fnWriteScanRow, standIns := [], harness := (true, "e23a2148ee275691eb6c008bfd15bfe2919ea129f0fbf331d2f4399ebe09324a"), looks := true }, kinds := [], alts := [], laidByText := true, laidKinds := [.data, .sentinel, .sentinel, .sentinel, .sentinel, .pinned], laidTests := true, laidLooks := .later }
def FnWriteScanCardSaid : Prop := Claim7.holds Tryd.pinned (.plain (OpenSpec.ofChange fnWriteScanSpec)) fnWriteScanCard

/-- THE SECOND FORM's CARD OF 'laws.FnEmpty'. -/
def fnEmptyUptoCard : Claim7 := { stood := { row := fnEmptyUptoRow, standIns := [], harness := (true, "e23a2148ee275691eb6c008bfd15bfe2919ea129f0fbf331d2f4399ebe09324a"), looks := true }, kinds := [], alts := [], laidByText := true, laidKinds := [.data, .sentinel, .sentinel, .sentinel, .sentinel, .sentinel, .sentinel, .sentinel, .pinned], laidTests := true, laidLooks := .later }
def FnEmptyUptoCardSaid : Prop := Claim7.holds Tryd.pinned (.plain (OpenSpec.upto fnEmptySpec)) fnEmptyUptoCard

/-- THE SECOND FORM's CARD OF 'laws.FnWriteComment'. -/
def fnWriteCommentUptoCard : Claim7 := { stood := { row := fnWriteCommentUptoRow, standIns := [], harness := (true, "e23a2148ee275691eb6c008bfd15bfe2919ea129f0fbf331d2f4399ebe09324a"), looks := true }, kinds := [], alts := [], laidByText := true, laidKinds := [.data, .sentinel, .sentinel, .sentinel, .sentinel, .pinned], laidTests := true, laidLooks := .later }
def FnWriteCommentUptoCardSaid : Prop := Claim7.holds Tryd.pinned (.plain (OpenSpec.upto fnWriteCommentSpec)) fnWriteCommentUptoCard

/-- THE SECOND FORM's CARD OF 'laws.FnWriteDirectory'. -/
def fnWriteDirectoryUptoCard : Claim7 := { stood := { row := fnWriteDirectoryUptoRow, standIns := [], harness := (true, "e23a2148ee275691eb6c008bfd15bfe2919ea129f0fbf331d2f4399ebe09324a"), looks := true }, kinds := [], alts := [], laidByText := true, laidKinds := [.data, .sentinel, .sentinel, .sentinel, .sentinel, .pinned], laidTests := true, laidLooks := .later }
def FnWriteDirectoryUptoCardSaid : Prop := Claim7.holds Tryd.pinned (.plain (OpenSpec.upto fnWriteDirectorySpec)) fnWriteDirectoryUptoCard

/-- THE SECOND FORM's CARD OF 'laws.FnWriteScan'. -/
def fnWriteScanUptoCard : Claim7 := { stood := { row := fnWriteScanUptoRow, standIns := [], harness := (true, "e23a2148ee275691eb6c008bfd15bfe2919ea129f0fbf331d2f4399ebe09324a"), looks := true }, kinds := [], alts := [], laidByText := true, laidKinds := [.data, .sentinel, .sentinel, .sentinel, .sentinel, .pinned], laidTests := true, laidLooks := .later }
def FnWriteScanUptoCardSaid : Prop := Claim7.holds Tryd.pinned (.plain (OpenSpec.upto fnWriteScanSpec)) fnWriteScanUptoCard
end Rows
end Go.Proofs.YtkkdblifgekmkaaDoor
