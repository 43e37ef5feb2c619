/-
  DERIVED. GIVEN WITH THE SEED: THE CARDS: each row of YtdnijpehlahdnaaDoorRows.lean that lists a variable, with what it lists TIED to the program's text (the seventh form; the later family's looks); each row that meets fmt, with fmt's text TOLD by the authors' own Lean function (tested against real Go, not proved from fmt's source: count such statements apart). THE CARD IS WHAT COUNTS. Prove the row's statement (the work); the ties are given (YtdnijpehlahdnaaDoorTie.lean); close each card by the builder's one call (the guide's Derived/Test/ToyasCard.lean, 'card_holds'). Laid BY PROGRAM, IN A SANDBOX (cutbox-door.mjs). By AI agents, Wed Nov 11 2026. No macro, syntax, notation, axiom, sorry.
-/
import Derived.Test.YtdnijpehlahdnaaDoorRows
import GoSem.ClaimSeven
namespace Go.Proofs.YtdnijpehlahdnaaDoor
namespace Rows

/-- THE TIED CARD OF 'laws.FnExactDetect'. -/
def fnExactDetectCard : Claim7 := { stood := { row := fnExactDetectRow, standIns := [], harness := (true, "5f5458e5358f2d6c56e6d2155499787593fdae17c05197c744cdd2b28776dc0d"), looks := false }, kinds := [], alts := [], laidByText := true, laidKinds := [.data, .pinned], laidTests := true, laidLooks := .later }
def FnExactDetectCardSaid : Prop := Claim7.holds Tryd.pinned (.plain (OpenSpec.ofChange fnExactDetectSpec)) fnExactDetectCard

/-- THE SECOND FORM's CARD OF 'laws.FnExactDetect'. -/
def fnExactDetectUptoCard : Claim7 := { stood := { row := fnExactDetectUptoRow, standIns := [], harness := (true, "5f5458e5358f2d6c56e6d2155499787593fdae17c05197c744cdd2b28776dc0d"), looks := false }, kinds := [], alts := [], laidByText := true, laidKinds := [.data, .pinned], laidTests := true, laidLooks := .later }
def FnExactDetectUptoCardSaid : Prop := Claim7.holds Tryd.pinned (.plain (OpenSpec.upto fnExactDetectSpec)) fnExactDetectUptoCard
end Rows
end Go.Proofs.YtdnijpehlahdnaaDoor
