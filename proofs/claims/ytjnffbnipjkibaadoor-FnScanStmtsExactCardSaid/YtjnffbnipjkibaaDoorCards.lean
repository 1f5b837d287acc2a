/-
  DERIVED. GIVEN WITH THE SEED: THE CARDS: each row of YtjnffbnipjkibaaDoorRows.lean that lists a variable, with what it lists TIED to the program's text (the seventh form; the later family's looks); each row that meets fmt, with fmt's text TOLD by the authors' own Lean function (tested against real Go, not proved from fmt's source: count such statements apart). THE CARD IS WHAT COUNTS. Prove the row's statement (the work); the ties are given (YtjnffbnipjkibaaDoorTie.lean); close each card by the builder's one call (the guide's Derived/Test/ToyasCard.lean, 'card_holds'). Laid BY PROGRAM, IN A SANDBOX (cutbox-door.mjs). By AI agents, Wed Nov 11 2026. No macro, syntax, notation, axiom, sorry.
-/
import Derived.Test.YtjnffbnipjkibaaDoorRows
import GoSem.ClaimSeven
namespace Go.Proofs.YtjnffbnipjkibaaDoor
namespace Rows

/-- THE TIED CARD OF 'n011_248.FnAnalyzeMethodTable'. -/
def fnAnalyzeMethodTableCard : Claim7 := { stood := { row := fnAnalyzeMethodTableRow, standIns := [], harness := (true, "b05032c076ae40d006afe8eb4b244787879554a69b252cebd6e1790482655b99"), looks := true }, kinds := [], alts := [], laidByText := true, laidKinds := [.data], laidTests := true, laidLooks := .later }
def FnAnalyzeMethodTableCardSaid : Prop := Claim7.holds Tryd.pinned (.plain (OpenSpec.ofChange fnAnalyzeMethodTableSpec)) fnAnalyzeMethodTableCard

/-- THE TIED CARD OF 'n011_263.FnScanStmtsExact'. -/
def fnScanStmtsExactCard : Claim7 := { stood := { row := fnScanStmtsExactRow, standIns := [], harness := (true, "b05032c076ae40d006afe8eb4b244787879554a69b252cebd6e1790482655b99"), looks := true }, kinds := [], alts := [], laidByText := true, laidKinds := [.data], laidTests := true, laidLooks := .later }
def FnScanStmtsExactCardSaid : Prop := Claim7.holds Tryd.pinned (.plain (OpenSpec.ofChange fnScanStmtsExactSpec)) fnScanStmtsExactCard

/-- THE SECOND FORM's CARD OF 'n011_248.FnAnalyzeMethodTable'. -/
def fnAnalyzeMethodTableUptoCard : Claim7 := { stood := { row := fnAnalyzeMethodTableUptoRow, standIns := [], harness := (true, "b05032c076ae40d006afe8eb4b244787879554a69b252cebd6e1790482655b99"), looks := true }, kinds := [], alts := [], laidByText := true, laidKinds := [.data], laidTests := true, laidLooks := .later }
def FnAnalyzeMethodTableUptoCardSaid : Prop := Claim7.holds Tryd.pinned (.plain (OpenSpec.upto fnAnalyzeMethodTableSpec)) fnAnalyzeMethodTableUptoCard

/-- THE SECOND FORM's CARD OF 'n011_263.FnScanStmtsExact'. -/
def fnScanStmtsExactUptoCard : Claim7 := { stood := { row := fnScanStmtsExactUptoRow, standIns := [], harness := (true, "b05032c076ae40d006afe8eb4b244787879554a69b252cebd6e1790482655b99"), looks := true }, kinds := [], alts := [], laidByText := true, laidKinds := [.data], laidTests := true, laidLooks := .later }
def FnScanStmtsExactUptoCardSaid : Prop := Claim7.holds Tryd.pinned (.plain (OpenSpec.upto fnScanStmtsExactSpec)) fnScanStmtsExactUptoCard
end Rows
end Go.Proofs.YtjnffbnipjkibaaDoor
