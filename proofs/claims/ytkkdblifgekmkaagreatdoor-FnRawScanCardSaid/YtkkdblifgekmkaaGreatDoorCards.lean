/-
  DERIVED. GIVEN WITH THE SEED: THE CARDS: each row of YtkkdblifgekmkaaGreatDoorRows.lean that lists a variable, with what it lists TIED to the program's text (the seventh form; the later family's looks); each row that meets fmt, with fmt's text TOLD by the authors' own Lean function (tested against real Go, not proved from fmt's source: count such statements apart). THE CARD IS WHAT COUNTS. Prove the row's statement (the work); the ties are given (YtkkdblifgekmkaaGreatDoorTie.lean); close each card by the builder's one call (the guide's Derived/Test/ToyasCard.lean, 'card_holds'). Laid BY PROGRAM, IN A SANDBOX (cutbox-door.mjs). By AI agents, Wed Nov 11 2026. No macro, syntax, notation, axiom, sorry.
-/
import Derived.Test.YtkkdblifgekmkaaGreatDoorRows
import GoSem.ClaimSeven
namespace Go.Proofs.YtkkdblifgekmkaaGreatDoor
namespace Rows

/-- THE TIED CARD OF 'laws.FnWriteUTF8'. -/
def fnWriteUTF8Card : Claim7 := { stood := { row := fnWriteUTF8Row, standIns := [], harness := (true, "98ba60d785f16941e8b730157634da190ca252ad9107bdbe6ba7b501a234ccf9"), looks := true }, kinds := [], alts := [], laidByText := true, laidKinds := [.data, .sentinel, .sentinel, .sentinel, .sentinel, .pinned], laidTests := true, laidLooks := .later }
def FnWriteUTF8CardSaid : Prop := Claim7.holds Tryz.pinned (.plain (OpenSpec.ofChange fnWriteUTF8Spec)) fnWriteUTF8Card

/-- THE TIED CARD OF 'laws.FnRawScan'. -/
def fnRawScanCard : Claim7 := { stood := { row := fnRawScanRow, standIns := [], harness := (true, "98ba60d785f16941e8b730157634da190ca252ad9107bdbe6ba7b501a234ccf9"), looks := true }, kinds := [], alts := [], laidByText := true, laidKinds := [.data, .sentinel, .sentinel, .sentinel, .sentinel, .pinned], laidTests := true, laidLooks := .later }
def FnRawScanCardSaid : Prop := Claim7.holds Tryz.pinned (.plain (OpenSpec.ofChange fnRawScanSpec)) fnRawScanCard

/-- THE TIED CARD OF 'laws.FnLocalSpoilt'. -/
def fnLocalSpoiltCard : Claim7 := { stood := { row := fnLocalSpoiltRow, standIns := [], harness := (true, "98ba60d785f16941e8b730157634da190ca252ad9107bdbe6ba7b501a234ccf9"), looks := true }, kinds := [], alts := [], laidByText := true, laidKinds := [.data, .sentinel, .sentinel, .sentinel, .sentinel, .sentinel, .sentinel, .sentinel, .sentinel, .sentinel, .pinned], laidTests := true, laidLooks := .later }
def FnLocalSpoiltCardSaid : Prop := Claim7.holds Tryz.pinned (.plain (OpenSpec.ofChange fnLocalSpoiltSpec)) fnLocalSpoiltCard

/-- THE SECOND FORM's CARD OF 'laws.FnWriteUTF8'. -/
def fnWriteUTF8UptoCard : Claim7 := { stood := { row := fnWriteUTF8UptoRow, standIns := [], harness := (true, "98ba60d785f16941e8b730157634da190ca252ad9107bdbe6ba7b501a234ccf9"), looks := true }, kinds := [], alts := [], laidByText := true, laidKinds := [.data, .sentinel, .sentinel, .sentinel, .sentinel, .pinned], laidTests := true, laidLooks := .later }
def FnWriteUTF8UptoCardSaid : Prop := Claim7.holds Tryz.pinned (.plain (OpenSpec.upto fnWriteUTF8Spec)) fnWriteUTF8UptoCard

/-- THE SECOND FORM's CARD OF 'laws.FnRawScan'. -/
def fnRawScanUptoCard : Claim7 := { stood := { row := fnRawScanUptoRow, standIns := [], harness := (true, "98ba60d785f16941e8b730157634da190ca252ad9107bdbe6ba7b501a234ccf9"), looks := true }, kinds := [], alts := [], laidByText := true, laidKinds := [.data, .sentinel, .sentinel, .sentinel, .sentinel, .pinned], laidTests := true, laidLooks := .later }
def FnRawScanUptoCardSaid : Prop := Claim7.holds Tryz.pinned (.plain (OpenSpec.upto fnRawScanSpec)) fnRawScanUptoCard

/-- THE SECOND FORM's CARD OF 'laws.FnLocalSpoilt'. -/
def fnLocalSpoiltUptoCard : Claim7 := { stood := { row := fnLocalSpoiltUptoRow, standIns := [], harness := (true, "98ba60d785f16941e8b730157634da190ca252ad9107bdbe6ba7b501a234ccf9"), looks := true }, kinds := [], alts := [], laidByText := true, laidKinds := [.data, .sentinel, .sentinel, .sentinel, .sentinel, .sentinel, .sentinel, .sentinel, .sentinel, .sentinel, .pinned], laidTests := true, laidLooks := .later }
def FnLocalSpoiltUptoCardSaid : Prop := Claim7.holds Tryz.pinned (.plain (OpenSpec.upto fnLocalSpoiltSpec)) fnLocalSpoiltUptoCard
end Rows
end Go.Proofs.YtkkdblifgekmkaaGreatDoor
