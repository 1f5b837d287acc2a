/-
  No cell of these rows narrows 'for every input' (looked for: loops, veiled, ifaces, maps, wideKeys, modest, calm, conditions, laid).
  DERIVED. THE GIVEN ROWS OF THIS SEAT. 1 by the template 'for every input the law returns true; each argument reads behind the call as it read before'; 0 by the template 'total and deterministic' (their statements: YtiplpggnnkojpaaFmtTotals.lean).
  GIVEN WITH THE SEED: the statements are not yours to turn. If you find one false, say at which input.
  Laid BY PROGRAM, IN A SANDBOX (cutbox-rows.mjs): the forced cells as the released guide's own fill.sh prints them over the translation ac542ccf511fca99… (all of the seat's roots in one cut). By AI agents, Wed Nov 11 2026. No macro, syntax, notation, axiom, sorry.
-/
import Derived.Test.YtiplpggnnkojpaaFmtChecked
import GoSem.Claim
import GoSem.ClaimJoined
import GoSem.ClaimMapViews
import Derived.JoinedTies
import Derived.KernelRfl
namespace Go.Proofs.YtiplpggnnkojpaaFmt
/- THE CELL 'sum', in the pinned program and in every row, IS THE sha256 OF THE DUMP (.gsa) THAT YtiplpggnnkojpaaFmtProg.lean LOADS. Nothing in Lean hashes anything: it is a label: what it is worth is what the hold of that sum in a sandbox is worth. -/
noncomputable def Tryf.pinned : Pinned := { name := "ytiplpggnnkojpaafmt", sum := "ac542ccf511fca99478c77d8a726661fe76bb077b370a0b4a96557fbd2424693", checked := Tryf.checked }
namespace Rows
def none {H : Type} : Left H := { results := [], args := [] }

/-- 'n011_11.FnTextForParenthesesSuggestionIdempotent': WHATEVER THE INPUT: true; the input reads as it did. -/
def fnTextForParenthesesSuggestionIdempotentSpec : ChangeSpec := { name := "fnTextForParenthesesSuggestionIdempotent", fn := fun _ => fun
  | [d] => { results := [.lit (.bool true)], args := [d] }
  | _ => none }
def fnTextForParenthesesSuggestionIdempotentRow : OpenClaim := { program := "ytiplpggnnkojpaafmt", sum := "ac542ccf511fca99478c77d8a726661fe76bb077b370a0b4a96557fbd2424693", func := "github.com/evanw/esbuild/n011_11.FnTextForParenthesesSuggestionIdempotent", spec := "fnTextForParenthesesSuggestionIdempotent", stops := ["fmt.Sprintf"], inPlace := ["internal/abi.NoEscape", "internal/bytealg.MakeNoZero", "fmt.Sprintf"], apart := false }
/-- NO THEOREM (fmt's text is open here; it may be false): for the released tool's asking of the row's closed facts alone. THE STATEMENT IS 'FnTextForParenthesesSuggestionIdempotentToldSaid' (YtiplpggnnkojpaaFmtCards.lean). -/
def FnTextForParenthesesSuggestionIdempotentFormAsk : Prop := fnTextForParenthesesSuggestionIdempotentRow.holds Tryf.pinned (OpenSpec.ofChange fnTextForParenthesesSuggestionIdempotentSpec)

/-- ITS FALSE NEIGHBOUR: 'it returns false'. Refute it at one input. -/
def fnTextForParenthesesSuggestionIdempotentWrong : ChangeSpec := { name := "fnTextForParenthesesSuggestionIdempotent", fn := fun _ => fun
  | [d] => { results := [.lit (.bool false)], args := [d] }
  | _ => none }
def FnTextForParenthesesSuggestionIdempotentWrongFormAsk : Prop := fnTextForParenthesesSuggestionIdempotentRow.holds Tryf.pinned (OpenSpec.ofChange fnTextForParenthesesSuggestionIdempotentWrong)

end Rows
end Go.Proofs.YtiplpggnnkojpaaFmt
