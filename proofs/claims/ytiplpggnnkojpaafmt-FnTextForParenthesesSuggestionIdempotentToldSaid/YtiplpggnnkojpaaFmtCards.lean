/-
  DERIVED. GIVEN WITH THE SEED: THE CARDS: each row of YtiplpggnnkojpaaFmtRows.lean that lists a variable, with what it lists TIED to the program's text (the seventh form; the later family's looks); each row that meets fmt, with fmt's text TOLD by the authors' own Lean function (tested against real Go, not proved from fmt's source: count such statements apart). THE CARD IS WHAT COUNTS. Prove the row's statement (the work); the ties are given (YtiplpggnnkojpaaFmtTie.lean); close each card by the builder's one call (the guide's Derived/Test/ToyasCard.lean, 'card_holds'). Laid BY PROGRAM, IN A SANDBOX (cutbox-door.mjs). By AI agents, Wed Nov 11 2026. No macro, syntax, notation, axiom, sorry.
-/
import Derived.Test.YtiplpggnnkojpaaFmtRows
import GoSem.ClaimSeven
namespace Go.Proofs.YtiplpggnnkojpaaFmt
namespace Rows

/-- THE TOLD CARD OF 'n011_11.FnTextForParenthesesSuggestionIdempotent'. -/
def fnTextForParenthesesSuggestionIdempotentCard : Claim7 := { stood := { row := fnTextForParenthesesSuggestionIdempotentRow, standIns := [], harness := (true, "853f10c102eada8a1c889e70128686cb077d123c561ddf2811712065b5674bf5"), looks := false }, told := true, goes := false }
def FnTextForParenthesesSuggestionIdempotentToldSaid : Prop := Claim7.holds Tryf.pinned (.plain (OpenSpec.ofChange fnTextForParenthesesSuggestionIdempotentSpec)) fnTextForParenthesesSuggestionIdempotentCard
/-- ITS FALSE NEIGHBOUR. Refute it at one input. -/
def FnTextForParenthesesSuggestionIdempotentToldWrongFalsely : Prop := Claim7.holds Tryf.pinned (.plain (OpenSpec.ofChange fnTextForParenthesesSuggestionIdempotentWrong)) fnTextForParenthesesSuggestionIdempotentCard
end Rows
end Go.Proofs.YtiplpggnnkojpaaFmt
