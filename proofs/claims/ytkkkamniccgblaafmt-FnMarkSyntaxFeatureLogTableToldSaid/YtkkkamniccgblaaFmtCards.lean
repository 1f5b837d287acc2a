/-
  DERIVED. GIVEN WITH THE SEED: THE CARDS: each row of YtkkkamniccgblaaFmtRows.lean that lists a variable, with what it lists TIED to the program's text (the seventh form; the later family's looks); each row that meets fmt, with fmt's text TOLD by the authors' own Lean function (tested against real Go, not proved from fmt's source: count such statements apart). THE CARD IS WHAT COUNTS. Prove the row's statement (the work); the ties are given (YtkkkamniccgblaaFmtTie.lean); close each card by the builder's one call (the guide's Derived/Test/ToyasCard.lean, 'card_holds'). Laid BY PROGRAM, IN A SANDBOX (cutbox-door.mjs). By AI agents, Wed Nov 11 2026. No macro, syntax, notation, axiom, sorry.
-/
import Derived.Test.YtkkkamniccgblaaFmtRows
import GoSem.ClaimSeven
namespace Go.Proofs.YtkkkamniccgblaaFmt
namespace Rows

/-- THE TOLD AND TIED CARD OF 'n011_133.FnMarkSyntaxFeatureResultClosedForm'. -/
def fnMarkSyntaxFeatureResultClosedFormCard : Claim7 := { stood := { row := fnMarkSyntaxFeatureResultClosedFormRow, standIns := [], harness := (true, "572e8c306511113c3181f1505ae138e9f39369c7a4412382734ff30081a4d91a"), looks := false }, told := true, laidByText := true, laidKinds := [.data, .pinned], laidTests := true, laidLooks := .later, goes := false }
def FnMarkSyntaxFeatureResultClosedFormToldSaid : Prop := Claim7.holds Tryf.pinned (.plain (OpenSpec.ofChange fnMarkSyntaxFeatureResultClosedFormSpec)) fnMarkSyntaxFeatureResultClosedFormCard
/-- ITS FALSE NEIGHBOUR. Refute it at one input. -/
def FnMarkSyntaxFeatureResultClosedFormToldWrongFalsely : Prop := Claim7.holds Tryf.pinned (.plain (OpenSpec.ofChange fnMarkSyntaxFeatureResultClosedFormWrong)) fnMarkSyntaxFeatureResultClosedFormCard

/-- THE TOLD AND TIED CARD OF 'n011_133.FnMarkSyntaxFeatureLogTable'. -/
def fnMarkSyntaxFeatureLogTableCard : Claim7 := { stood := { row := fnMarkSyntaxFeatureLogTableRow, standIns := [], harness := (true, "572e8c306511113c3181f1505ae138e9f39369c7a4412382734ff30081a4d91a"), looks := false }, told := true, laidByText := true, laidKinds := [.data, .pinned], laidTests := true, laidLooks := .later, goes := false }
def FnMarkSyntaxFeatureLogTableToldSaid : Prop := Claim7.holds Tryf.pinned (.plain (OpenSpec.ofChange fnMarkSyntaxFeatureLogTableSpec)) fnMarkSyntaxFeatureLogTableCard
/-- ITS FALSE NEIGHBOUR. Refute it at one input. -/
def FnMarkSyntaxFeatureLogTableToldWrongFalsely : Prop := Claim7.holds Tryf.pinned (.plain (OpenSpec.ofChange fnMarkSyntaxFeatureLogTableWrong)) fnMarkSyntaxFeatureLogTableCard
end Rows
end Go.Proofs.YtkkkamniccgblaaFmt
