/-
  NARROWER THAN 'FOR EVERY INPUT', by the rows' own cells (each row's printed sentence says how): FnMarkSyntaxFeatureResultClosedForm: laid · FnMarkSyntaxFeatureLogTable: laid.
  DERIVED. THE GIVEN ROWS OF THIS SEAT. 2 by the template 'for every input the law returns true; each argument reads behind the call as it read before'; 0 by the template 'total and deterministic' (their statements: YtkkkamniccgblaaFmtTotals.lean).
  GIVEN WITH THE SEED: the statements are not yours to turn. If you find one false, say at which input.
  Laid BY PROGRAM, IN A SANDBOX (cutbox-rows.mjs): the forced cells as the released guide's own fill.sh prints them over the translation d65941744a7098e1… (all of the seat's roots in one cut). By AI agents, Wed Nov 11 2026. No macro, syntax, notation, axiom, sorry.
-/
import Derived.Test.YtkkkamniccgblaaFmtChecked
import GoSem.PinnedTables
import GoSem.Claim
import GoSem.ClaimJoined
import GoSem.ClaimMapViews
import Derived.JoinedTies
import Derived.KernelRfl
namespace Go.Proofs.YtkkkamniccgblaaFmt
/- THE CELL 'sum', in the pinned program and in every row, IS THE sha256 OF THE DUMP (.gsa) THAT YtkkkamniccgblaaFmtProg.lean LOADS. Nothing in Lean hashes anything: it is a label: what it is worth is what the hold of that sum in a sandbox is worth. -/
noncomputable def Tryf.pinned : Pinned := { name := "ytkkkamniccgblaafmt", sum := "d65941744a7098e1ac4a2df270f3a1b4eb3d59938b14209e2b0a282dd81a6057", checked := Tryf.checked }
namespace Rows
def none {H : Type} : Left H := { results := [], args := [] }

/- WHAT THE LISTED PACKAGE-LEVEL VARIABLES READ AS WHEN THE CALL BEGINS. Each datum BY PROGRAM (the guide's laid-datum.mjs) off the statement by which the dump's own 'gosem.cut.vars' lays the variable. In a bare row this is a premise. The card (YtkkkamniccgblaaFmtCards.lean) ties it to the program's text. -/
def laid_unicode_utf8_acceptRanges {H : Type} : DataW H := .agg [.agg [.lit (.int .u8 128), .lit (.int .u8 191)], .agg [.lit (.int .u8 160), .lit (.int .u8 191)], .agg [.lit (.int .u8 128), .lit (.int .u8 159)], .agg [.lit (.int .u8 144), .lit (.int .u8 191)], .agg [.lit (.int .u8 128), .lit (.int .u8 143)], .agg [.lit (.int .u8 0), .lit (.int .u8 0)], .agg [.lit (.int .u8 0), .lit (.int .u8 0)], .agg [.lit (.int .u8 0), .lit (.int .u8 0)], .agg [.lit (.int .u8 0), .lit (.int .u8 0)], .agg [.lit (.int .u8 0), .lit (.int .u8 0)], .agg [.lit (.int .u8 0), .lit (.int .u8 0)], .agg [.lit (.int .u8 0), .lit (.int .u8 0)], .agg [.lit (.int .u8 0), .lit (.int .u8 0)], .agg [.lit (.int .u8 0), .lit (.int .u8 0)], .agg [.lit (.int .u8 0), .lit (.int .u8 0)], .agg [.lit (.int .u8 0), .lit (.int .u8 0)]]
/-- One of Go's own tables, pinned by name: the form's constant. -/
def laid_unicode_utf8_first : DataW Unit := Go.Pinned.utf8First

/-- 'n011_133.FnMarkSyntaxFeatureResultClosedForm': WHATEVER THE INPUT: true; the input reads as it did. -/
def fnMarkSyntaxFeatureResultClosedFormSpec : ChangeSpec := { name := "fnMarkSyntaxFeatureResultClosedForm", fn := fun _ => fun
  | [d1, d2, d3, d4, d5, d6, d7, d8, d9, d10] => { results := [.lit (.bool true)], args := [d1, d2, d3, d4, d5, d6, d7, d8, d9, d10] }
  | _ => none }
def fnMarkSyntaxFeatureResultClosedFormRow : OpenClaim := { program := "ytkkkamniccgblaafmt", sum := "d65941744a7098e1ac4a2df270f3a1b4eb3d59938b14209e2b0a282dd81a6057", func := "github.com/evanw/esbuild/n011_133.FnMarkSyntaxFeatureResultClosedForm", spec := "fnMarkSyntaxFeatureResultClosedForm", stops := ["fmt.Sprintf"], inPlace := ["(*internal/sync.Mutex).Lock", "internal/race.Disable", "sync/atomic.CompareAndSwapInt32", "internal/race.Enable", "internal/race.Acquire", "(*internal/sync.Mutex).lockSlow", "internal/sync.runtime_canSpin", "internal/sync.runtime_doSpin", "internal/sync.throw", "internal/sync.runtime_nanotime", "internal/sync.runtime_SemacquireMutex", "sync/atomic.AddInt32", "(*internal/sync.Mutex).Unlock", "internal/race.ReleaseMerge", "(*internal/sync.Mutex).unlockSlow", "internal/sync.fatal", "internal/sync.runtime_Semrelease", "fmt.Sprintf"], unfollowed := true, recurses := true, named := ["unicode/utf8.first", "unicode/utf8.acceptRanges"], plainKeys := false, apart := false, laid := [("unicode/utf8.acceptRanges", laid_unicode_utf8_acceptRanges), ("unicode/utf8.first", laid_unicode_utf8_first)] }
/-- NO THEOREM (fmt's text is open here; it may be false): for the released tool's asking of the row's closed facts alone. THE STATEMENT IS 'FnMarkSyntaxFeatureResultClosedFormToldSaid' (YtkkkamniccgblaaFmtCards.lean). -/
def FnMarkSyntaxFeatureResultClosedFormFormAsk : Prop := fnMarkSyntaxFeatureResultClosedFormRow.holds Tryf.pinned (OpenSpec.ofChange fnMarkSyntaxFeatureResultClosedFormSpec)

/-- ITS FALSE NEIGHBOUR: 'it returns false'. Refute it at one input. -/
def fnMarkSyntaxFeatureResultClosedFormWrong : ChangeSpec := { name := "fnMarkSyntaxFeatureResultClosedForm", fn := fun _ => fun
  | [d1, d2, d3, d4, d5, d6, d7, d8, d9, d10] => { results := [.lit (.bool false)], args := [d1, d2, d3, d4, d5, d6, d7, d8, d9, d10] }
  | _ => none }
def FnMarkSyntaxFeatureResultClosedFormWrongFormAsk : Prop := fnMarkSyntaxFeatureResultClosedFormRow.holds Tryf.pinned (OpenSpec.ofChange fnMarkSyntaxFeatureResultClosedFormWrong)

/-- 'n011_133.FnMarkSyntaxFeatureLogTable': WHATEVER THE INPUT: true; the input reads as it did. -/
def fnMarkSyntaxFeatureLogTableSpec : ChangeSpec := { name := "fnMarkSyntaxFeatureLogTable", fn := fun _ => fun
  | [d1, d2, d3, d4, d5, d6, d7, d8, d9, d10] => { results := [.lit (.bool true)], args := [d1, d2, d3, d4, d5, d6, d7, d8, d9, d10] }
  | _ => none }
def fnMarkSyntaxFeatureLogTableRow : OpenClaim := { program := "ytkkkamniccgblaafmt", sum := "d65941744a7098e1ac4a2df270f3a1b4eb3d59938b14209e2b0a282dd81a6057", func := "github.com/evanw/esbuild/n011_133.FnMarkSyntaxFeatureLogTable", spec := "fnMarkSyntaxFeatureLogTable", stops := ["fmt.Sprintf"], inPlace := ["(*internal/sync.Mutex).Lock", "internal/race.Disable", "sync/atomic.CompareAndSwapInt32", "internal/race.Enable", "internal/race.Acquire", "(*internal/sync.Mutex).lockSlow", "internal/sync.runtime_canSpin", "internal/sync.runtime_doSpin", "internal/sync.throw", "internal/sync.runtime_nanotime", "internal/sync.runtime_SemacquireMutex", "sync/atomic.AddInt32", "(*internal/sync.Mutex).Unlock", "internal/race.ReleaseMerge", "(*internal/sync.Mutex).unlockSlow", "internal/sync.fatal", "internal/sync.runtime_Semrelease", "fmt.Sprintf"], unfollowed := true, recurses := true, named := ["unicode/utf8.first", "unicode/utf8.acceptRanges"], plainKeys := false, apart := false, laid := [("unicode/utf8.acceptRanges", laid_unicode_utf8_acceptRanges), ("unicode/utf8.first", laid_unicode_utf8_first)] }
/-- NO THEOREM (fmt's text is open here; it may be false): for the released tool's asking of the row's closed facts alone. THE STATEMENT IS 'FnMarkSyntaxFeatureLogTableToldSaid' (YtkkkamniccgblaaFmtCards.lean). -/
def FnMarkSyntaxFeatureLogTableFormAsk : Prop := fnMarkSyntaxFeatureLogTableRow.holds Tryf.pinned (OpenSpec.ofChange fnMarkSyntaxFeatureLogTableSpec)

/-- ITS FALSE NEIGHBOUR: 'it returns false'. Refute it at one input. -/
def fnMarkSyntaxFeatureLogTableWrong : ChangeSpec := { name := "fnMarkSyntaxFeatureLogTable", fn := fun _ => fun
  | [d1, d2, d3, d4, d5, d6, d7, d8, d9, d10] => { results := [.lit (.bool false)], args := [d1, d2, d3, d4, d5, d6, d7, d8, d9, d10] }
  | _ => none }
def FnMarkSyntaxFeatureLogTableWrongFormAsk : Prop := fnMarkSyntaxFeatureLogTableRow.holds Tryf.pinned (OpenSpec.ofChange fnMarkSyntaxFeatureLogTableWrong)

end Rows
end Go.Proofs.YtkkkamniccgblaaFmt
