/-
  NARROWER THAN 'FOR EVERY INPUT', by the rows' own cells (each row's printed sentence says how): FnPushScopeForParsePassInheritsStrictMode: laid.
  DERIVED. THE GIVEN ROWS OF THIS SEAT. 2 by the template 'for every input the law returns true; each argument reads behind the call as it read before'; 0 by the template 'total and deterministic' (their statements: YthgcchgpplblbaaFmtTotals.lean).
  GIVEN WITH THE SEED: the statements are not yours to turn. If you find one false, say at which input.
  Laid BY PROGRAM, IN A SANDBOX (cutbox-rows.mjs): the forced cells as the released guide's own fill.sh prints them over the translation eb7464baedf92607… (all of the seat's roots in one cut). By AI agents, Wed Nov 11 2026. No macro, syntax, notation, axiom, sorry.
-/
import Derived.Test.YthgcchgpplblbaaFmtChecked
import GoSem.Claim
import GoSem.ClaimJoined
import GoSem.ClaimMapViews
import Derived.JoinedTies
import Derived.KernelRfl
namespace Go.Proofs.YthgcchgpplblbaaFmt
/- THE CELL 'sum', in the pinned program and in every row, IS THE sha256 OF THE DUMP (.gsa) THAT YthgcchgpplblbaaFmtProg.lean LOADS. Nothing in Lean hashes anything: it is a label: what it is worth is what the hold of that sum in a sandbox is worth. -/
noncomputable def Tryf.pinned : Pinned := { name := "ythgcchgpplblbaafmt", sum := "eb7464baedf9260786dcb2df2e2a3bf89294aa003df2016b98ba239ef06365c0", checked := Tryf.checked }
namespace Rows
def none {H : Type} : Left H := { results := [], args := [] }

/- WHAT THE LISTED PACKAGE-LEVEL VARIABLES READ AS WHEN THE CALL BEGINS. Each datum BY PROGRAM (the guide's laid-datum.mjs) off the statement by which the dump's own 'gosem.cut.vars' lays the variable. In a bare row this is a premise. The card (YthgcchgpplblbaaFmtCards.lean) ties it to the program's text. -/
def laid_github_com_evanw_esbuild_internal_ast_InvalidRef {H : Type} : DataW H := .agg [.lit (.int .u32 4294967295), .lit (.int .u32 4294967295)]

/-- 'n011_222.FnPushScopeForVisitPassReplaysFirstPass': WHATEVER THE INPUT: true; the input reads as it did. -/
def fnPushScopeForVisitPassReplaysFirstPassSpec : ChangeSpec := { name := "fnPushScopeForVisitPassReplaysFirstPass", fn := fun _ => fun
  | [d1, d2, d3] => { results := [.lit (.bool true)], args := [d1, d2, d3] }
  | _ => none }
def fnPushScopeForVisitPassReplaysFirstPassRow : OpenClaim := { program := "ythgcchgpplblbaafmt", sum := "eb7464baedf9260786dcb2df2e2a3bf89294aa003df2016b98ba239ef06365c0", func := "github.com/evanw/esbuild/n011_222.FnPushScopeForVisitPassReplaysFirstPass", spec := "fnPushScopeForVisitPassReplaysFirstPass", stops := ["fmt.Sprintf"], inPlace := ["fmt.Sprintf"], plainKeys := false, apart := false }
/-- NO THEOREM (fmt's text is open here; it may be false): for the released tool's asking of the row's closed facts alone. THE STATEMENT IS 'FnPushScopeForVisitPassReplaysFirstPassToldSaid' (YthgcchgpplblbaaFmtCards.lean). -/
def FnPushScopeForVisitPassReplaysFirstPassFormAsk : Prop := fnPushScopeForVisitPassReplaysFirstPassRow.holds Tryf.pinned (OpenSpec.ofChange fnPushScopeForVisitPassReplaysFirstPassSpec)

/-- ITS FALSE NEIGHBOUR: 'it returns false'. Refute it at one input. -/
def fnPushScopeForVisitPassReplaysFirstPassWrong : ChangeSpec := { name := "fnPushScopeForVisitPassReplaysFirstPass", fn := fun _ => fun
  | [d1, d2, d3] => { results := [.lit (.bool false)], args := [d1, d2, d3] }
  | _ => none }
def FnPushScopeForVisitPassReplaysFirstPassWrongFormAsk : Prop := fnPushScopeForVisitPassReplaysFirstPassRow.holds Tryf.pinned (OpenSpec.ofChange fnPushScopeForVisitPassReplaysFirstPassWrong)

/-- 'n011_120.FnPushScopeForParsePassInheritsStrictMode': WHATEVER THE INPUT: true; the input reads as it did. -/
def fnPushScopeForParsePassInheritsStrictModeSpec : ChangeSpec := { name := "fnPushScopeForParsePassInheritsStrictMode", vars := ["github.com/evanw/esbuild/internal/ast.InvalidRef"], fn := fun _ => fun
  | [d1, d2, d3, d4, g1] => { results := [.lit (.bool true)], args := [d1, d2, d3, d4], vars := [g1] }
  | _ => none }
def fnPushScopeForParsePassInheritsStrictModeRow : OpenClaim := { program := "ythgcchgpplblbaafmt", sum := "eb7464baedf9260786dcb2df2e2a3bf89294aa003df2016b98ba239ef06365c0", func := "github.com/evanw/esbuild/n011_120.FnPushScopeForParsePassInheritsStrictMode", spec := "fnPushScopeForParsePassInheritsStrictMode", stops := ["fmt.Sprintf"], inPlace := ["fmt.Sprintf"], named := ["github.com/evanw/esbuild/internal/ast.InvalidRef"], plainKeys := false, apart := false, laid := [("github.com/evanw/esbuild/internal/ast.InvalidRef", laid_github_com_evanw_esbuild_internal_ast_InvalidRef)] }
/-- NO THEOREM (fmt's text is open here; it may be false): for the released tool's asking of the row's closed facts alone. THE STATEMENT IS 'FnPushScopeForParsePassInheritsStrictModeToldSaid' (YthgcchgpplblbaaFmtCards.lean). -/
def FnPushScopeForParsePassInheritsStrictModeFormAsk : Prop := fnPushScopeForParsePassInheritsStrictModeRow.holds Tryf.pinned (OpenSpec.ofChange fnPushScopeForParsePassInheritsStrictModeSpec)

/-- ITS FALSE NEIGHBOUR: 'it returns false'. Refute it at one input. -/
def fnPushScopeForParsePassInheritsStrictModeWrong : ChangeSpec := { name := "fnPushScopeForParsePassInheritsStrictMode", vars := ["github.com/evanw/esbuild/internal/ast.InvalidRef"], fn := fun _ => fun
  | [d1, d2, d3, d4, g1] => { results := [.lit (.bool false)], args := [d1, d2, d3, d4], vars := [g1] }
  | _ => none }
def FnPushScopeForParsePassInheritsStrictModeWrongFormAsk : Prop := fnPushScopeForParsePassInheritsStrictModeRow.holds Tryf.pinned (OpenSpec.ofChange fnPushScopeForParsePassInheritsStrictModeWrong)

end Rows
end Go.Proofs.YthgcchgpplblbaaFmt
