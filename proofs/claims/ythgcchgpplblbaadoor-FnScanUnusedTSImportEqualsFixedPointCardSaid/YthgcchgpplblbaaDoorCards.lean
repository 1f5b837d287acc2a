/-
  DERIVED. GIVEN WITH THE SEED: THE CARDS: each row of YthgcchgpplblbaaDoorRows.lean that lists a variable, with what it lists TIED to the program's text (the seventh form; the later family's looks); each row that meets fmt, with fmt's text TOLD by the authors' own Lean function (tested against real Go, not proved from fmt's source: count such statements apart). THE CARD IS WHAT COUNTS. Prove the row's statement (the work); the ties are given (YthgcchgpplblbaaDoorTie.lean); close each card by the builder's one call (the guide's Derived/Test/ToyasCard.lean, 'card_holds'). Laid BY PROGRAM, IN A SANDBOX (cutbox-door.mjs). By AI agents, Wed Nov 11 2026. No macro, syntax, notation, axiom, sorry.
-/
import Derived.Test.YthgcchgpplblbaaDoorRows
import GoSem.ClaimSeven
namespace Go.Proofs.YthgcchgpplblbaaDoor
namespace Rows

/-- THE TIED CARD OF 'n011_124.FnScanUnusedTSImportEqualsFixedPoint'. -/
def fnScanUnusedTSImportEqualsFixedPointCard : Claim7 := { stood := { row := fnScanUnusedTSImportEqualsFixedPointRow, standIns := [], harness := (true, "cefaa6862565cb84e568de72446d1ddeef988dabe7c46f31420cef8d025383cd"), looks := true }, kinds := [], alts := [], laidByText := true, laidKinds := [.data], laidTests := true, laidLooks := .later }
def FnScanUnusedTSImportEqualsFixedPointCardSaid : Prop := Claim7.holds Tryd.pinned (.plain (OpenSpec.ofChange fnScanUnusedTSImportEqualsFixedPointSpec)) fnScanUnusedTSImportEqualsFixedPointCard

/-- THE SECOND FORM's CARD OF 'n011_124.FnScanUnusedTSImportEqualsFixedPoint'. -/
def fnScanUnusedTSImportEqualsFixedPointUptoCard : Claim7 := { stood := { row := fnScanUnusedTSImportEqualsFixedPointUptoRow, standIns := [], harness := (true, "cefaa6862565cb84e568de72446d1ddeef988dabe7c46f31420cef8d025383cd"), looks := true }, kinds := [], alts := [], laidByText := true, laidKinds := [.data], laidTests := true, laidLooks := .later }
def FnScanUnusedTSImportEqualsFixedPointUptoCardSaid : Prop := Claim7.holds Tryd.pinned (.plain (OpenSpec.upto fnScanUnusedTSImportEqualsFixedPointSpec)) fnScanUnusedTSImportEqualsFixedPointUptoCard
end Rows
end Go.Proofs.YthgcchgpplblbaaDoor
