/-
  DERIVED. GIVEN WITH THE SEED: THE CARDS: each row of YtgghakmfcodojaaDoorRows.lean that lists a variable, with what it lists TIED to the program's text (the seventh form; the later family's looks); each row that meets fmt, with fmt's text TOLD by the authors' own Lean function (tested against real Go, not proved from fmt's source: count such statements apart). THE CARD IS WHAT COUNTS. Prove the row's statement (the work); the ties are given (YtgghakmfcodojaaDoorTie.lean); close each card by the builder's one call (the guide's Derived/Test/ToyasCard.lean, 'card_holds'). Laid BY PROGRAM, IN A SANDBOX (cutbox-door.mjs). By AI agents, Wed Nov 11 2026. No macro, syntax, notation, axiom, sorry.
-/
import Derived.Test.YtgghakmfcodojaaDoorRows
import GoSem.ClaimSeven
namespace Go.Proofs.YtgghakmfcodojaaDoor
namespace Rows

/-- THE TIED CARD OF 'n011_248.FnAnalyzeMethodTable'. -/
def fnAnalyzeMethodTableCard : Claim7 := { stood := { row := fnAnalyzeMethodTableRow, standIns := [], harness := (true, "ef192bac6397cd60c5c7a341ddaebb170f329301233d0d53ec8091016009aaba"), looks := true }, kinds := [], alts := [], laidByText := true, laidKinds := [.data], laidTests := true, laidLooks := .later }
def FnAnalyzeMethodTableCardSaid : Prop := Claim7.holds Tryd.pinned (.plain (OpenSpec.ofChange fnAnalyzeMethodTableSpec)) fnAnalyzeMethodTableCard

/-- THE TIED CARD OF 'n011_263.FnUsingContextsAreConsecutive'. -/
def fnUsingContextsAreConsecutiveCard : Claim7 := { stood := { row := fnUsingContextsAreConsecutiveRow, standIns := [], harness := (true, "ef192bac6397cd60c5c7a341ddaebb170f329301233d0d53ec8091016009aaba"), looks := true }, kinds := [], alts := [], laidByText := true, laidKinds := [.data], laidTests := true, laidLooks := .later }
def FnUsingContextsAreConsecutiveCardSaid : Prop := Claim7.holds Tryd.pinned (.plain (OpenSpec.ofChange fnUsingContextsAreConsecutiveSpec)) fnUsingContextsAreConsecutiveCard

/-- THE SECOND FORM's CARD OF 'n011_248.FnAnalyzeMethodTable'. -/
def fnAnalyzeMethodTableUptoCard : Claim7 := { stood := { row := fnAnalyzeMethodTableUptoRow, standIns := [], harness := (true, "ef192bac6397cd60c5c7a341ddaebb170f329301233d0d53ec8091016009aaba"), looks := true }, kinds := [], alts := [], laidByText := true, laidKinds := [.data], laidTests := true, laidLooks := .later }
def FnAnalyzeMethodTableUptoCardSaid : Prop := Claim7.holds Tryd.pinned (.plain (OpenSpec.upto fnAnalyzeMethodTableSpec)) fnAnalyzeMethodTableUptoCard

/-- THE SECOND FORM's CARD OF 'n011_263.FnUsingContextsAreConsecutive'. -/
def fnUsingContextsAreConsecutiveUptoCard : Claim7 := { stood := { row := fnUsingContextsAreConsecutiveUptoRow, standIns := [], harness := (true, "ef192bac6397cd60c5c7a341ddaebb170f329301233d0d53ec8091016009aaba"), looks := true }, kinds := [], alts := [], laidByText := true, laidKinds := [.data], laidTests := true, laidLooks := .later }
def FnUsingContextsAreConsecutiveUptoCardSaid : Prop := Claim7.holds Tryd.pinned (.plain (OpenSpec.upto fnUsingContextsAreConsecutiveSpec)) fnUsingContextsAreConsecutiveUptoCard
end Rows
end Go.Proofs.YtgghakmfcodojaaDoor
