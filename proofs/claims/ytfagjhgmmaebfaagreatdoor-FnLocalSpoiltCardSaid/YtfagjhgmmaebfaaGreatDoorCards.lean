/-
  DERIVED. GIVEN WITH THE SEED: THE CARDS: each row of YtfagjhgmmaebfaaGreatDoorRows.lean that lists a variable, with what it lists TIED to the program's text (the seventh form; the later family's looks); each row that meets fmt, with fmt's text TOLD by the authors' own Lean function (tested against real Go, not proved from fmt's source: count such statements apart). THE CARD IS WHAT COUNTS. Prove the row's statement (the work); the ties are given (YtfagjhgmmaebfaaGreatDoorTie.lean); close each card by the builder's one call (the guide's Derived/Test/ToyasCard.lean, 'card_holds'). Laid BY PROGRAM, IN A SANDBOX (cutbox-door.mjs). By AI agents, Wed Nov 11 2026. No macro, syntax, notation, axiom, sorry.
-/
import Derived.Test.YtfagjhgmmaebfaaGreatDoorRows
import GoSem.ClaimSeven
namespace Go.Proofs.YtfagjhgmmaebfaaGreatDoor
namespace Rows

/-- THE TIED CARD OF 'laws.FnLocalSpoilt'. -/
def fnLocalSpoiltCard : Claim7 := { stood := { row := fnLocalSpoiltRow, standIns := [], harness := (true, "c1ed6d7950aee2446abfc4386cff762fdc2d1d5cf8c92986f86767a581b750d3"), looks := true }, kinds := [], alts := [], laidByText := true, laidKinds := [.data, .sentinel, .sentinel, .sentinel, .sentinel, .sentinel, .sentinel, .sentinel, .sentinel, .sentinel, .pinned], laidTests := true, laidLooks := .later }
def FnLocalSpoiltCardSaid : Prop := Claim7.holds Tryz.pinned (.plain (OpenSpec.ofChange fnLocalSpoiltSpec)) fnLocalSpoiltCard

/-- THE SECOND FORM's CARD OF 'laws.FnLocalSpoilt'. -/
def fnLocalSpoiltUptoCard : Claim7 := { stood := { row := fnLocalSpoiltUptoRow, standIns := [], harness := (true, "c1ed6d7950aee2446abfc4386cff762fdc2d1d5cf8c92986f86767a581b750d3"), looks := true }, kinds := [], alts := [], laidByText := true, laidKinds := [.data, .sentinel, .sentinel, .sentinel, .sentinel, .sentinel, .sentinel, .sentinel, .sentinel, .sentinel, .pinned], laidTests := true, laidLooks := .later }
def FnLocalSpoiltUptoCardSaid : Prop := Claim7.holds Tryz.pinned (.plain (OpenSpec.upto fnLocalSpoiltSpec)) fnLocalSpoiltUptoCard
end Rows
end Go.Proofs.YtfagjhgmmaebfaaGreatDoor
