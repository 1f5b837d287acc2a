/-
  DERIVED. GIVEN WITH THE SEED: THE CARDS: each row of YthgcchgpplblbaaFmtRows.lean that lists a variable, with what it lists TIED to the program's text (the seventh form; the later family's looks); each row that meets fmt, with fmt's text TOLD by the authors' own Lean function (tested against real Go, not proved from fmt's source: count such statements apart). THE CARD IS WHAT COUNTS. Prove the row's statement (the work); the ties are given (YthgcchgpplblbaaFmtTie.lean); close each card by the builder's one call (the guide's Derived/Test/ToyasCard.lean, 'card_holds'). Laid BY PROGRAM, IN A SANDBOX (cutbox-door.mjs). By AI agents, Wed Nov 11 2026. No macro, syntax, notation, axiom, sorry.
-/
import Derived.Test.YthgcchgpplblbaaFmtRows
import GoSem.ClaimSeven
namespace Go.Proofs.YthgcchgpplblbaaFmt
namespace Rows

/-- THE TOLD CARD OF 'n011_222.FnPushScopeForVisitPassReplaysFirstPass'. -/
def fnPushScopeForVisitPassReplaysFirstPassCard : Claim7 := { stood := { row := fnPushScopeForVisitPassReplaysFirstPassRow, standIns := [], harness := (true, "f390aea7caa588f4b18dffc787a852750316ca2cb6c85fc0ebfe1c8c11126523"), looks := false }, told := true, goes := false }
def FnPushScopeForVisitPassReplaysFirstPassToldSaid : Prop := Claim7.holds Tryf.pinned (.plain (OpenSpec.ofChange fnPushScopeForVisitPassReplaysFirstPassSpec)) fnPushScopeForVisitPassReplaysFirstPassCard
/-- ITS FALSE NEIGHBOUR. Refute it at one input. -/
def FnPushScopeForVisitPassReplaysFirstPassToldWrongFalsely : Prop := Claim7.holds Tryf.pinned (.plain (OpenSpec.ofChange fnPushScopeForVisitPassReplaysFirstPassWrong)) fnPushScopeForVisitPassReplaysFirstPassCard

/-- THE TOLD AND TIED CARD OF 'n011_120.FnPushScopeForParsePassInheritsStrictMode'. -/
def fnPushScopeForParsePassInheritsStrictModeCard : Claim7 := { stood := { row := fnPushScopeForParsePassInheritsStrictModeRow, standIns := [], harness := (true, "f390aea7caa588f4b18dffc787a852750316ca2cb6c85fc0ebfe1c8c11126523"), looks := false }, told := true, laidByText := true, laidKinds := [.data], laidTests := true, laidLooks := .later, goes := false }
def FnPushScopeForParsePassInheritsStrictModeToldSaid : Prop := Claim7.holds Tryf.pinned (.plain (OpenSpec.ofChange fnPushScopeForParsePassInheritsStrictModeSpec)) fnPushScopeForParsePassInheritsStrictModeCard
/-- ITS FALSE NEIGHBOUR. Refute it at one input. -/
def FnPushScopeForParsePassInheritsStrictModeToldWrongFalsely : Prop := Claim7.holds Tryf.pinned (.plain (OpenSpec.ofChange fnPushScopeForParsePassInheritsStrictModeWrong)) fnPushScopeForParsePassInheritsStrictModeCard
end Rows
end Go.Proofs.YthgcchgpplblbaaFmt
