/-
  NARROWER THAN 'FOR EVERY INPUT', by the rows' own cells (each row's printed sentence says how): FnDuplicateCaseCheckStoresFirstOfEachHash: laid · FnDuplicateCaseCheckIgnoresUnhashable: laid · FnObjectSpreadMatchesRightToLeftChain: laid · FnRemapLocsInJSONComposesAsOneShift: laid · FnRemapLocsInJSONShiftsByOpeningQuote: laid.
  DERIVED. THE GIVEN ROWS OF THIS SEAT. 5 by the template 'for every input the law returns true; each argument reads behind the call as it read before'; 0 by the template 'total and deterministic' (their statements: YtjlmaingeobgeaaDoorTotals.lean).
  GIVEN WITH THE SEED: the statements are not yours to turn. If you find one false, say at which input.
  Laid BY PROGRAM, IN A SANDBOX (cutbox-rows.mjs): the forced cells as the released guide's own fill.sh prints them over the translation 73bd603daacdca87… (all of the seat's roots in one cut). By AI agents, Wed Nov 11 2026. No macro, syntax, notation, axiom, sorry.
-/
import Derived.Test.YtjlmaingeobgeaaDoorChecked
import GoSem.PinnedTables
import GoSem.Claim
import GoSem.ClaimJoined
import GoSem.ClaimMapViews
import Derived.JoinedTies
import Derived.KernelRfl
namespace Go.Proofs.YtjlmaingeobgeaaDoor
/- THE CELL 'sum', in the pinned program and in every row, IS THE sha256 OF THE DUMP (.gsa) THAT YtjlmaingeobgeaaDoorProg.lean LOADS. Nothing in Lean hashes anything: it is a label: what it is worth is what the hold of that sum in a sandbox is worth. -/
noncomputable def Tryd.pinned : Pinned := { name := "ytjlmaingeobgeaadoor", sum := "73bd603daacdca875ab9d425d082959f9f69f564457dfce97137ac7e54d8e00e", checked := Tryd.checked }
namespace Rows
def none {H : Type} : Left H := { results := [], args := [] }

/- WHAT THE LISTED PACKAGE-LEVEL VARIABLES READ AS WHEN THE CALL BEGINS. Each datum BY PROGRAM (the guide's laid-datum.mjs) off the statement by which the dump's own 'gosem.cut.vars' lays the variable. In a bare row this is a premise. The card (YtjlmaingeobgeaaDoorCards.lean) ties it to the program's text. -/
def laid_unicode_utf8_acceptRanges {H : Type} : DataW H := .agg [.agg [.lit (.int .u8 128), .lit (.int .u8 191)], .agg [.lit (.int .u8 160), .lit (.int .u8 191)], .agg [.lit (.int .u8 128), .lit (.int .u8 159)], .agg [.lit (.int .u8 144), .lit (.int .u8 191)], .agg [.lit (.int .u8 128), .lit (.int .u8 143)], .agg [.lit (.int .u8 0), .lit (.int .u8 0)], .agg [.lit (.int .u8 0), .lit (.int .u8 0)], .agg [.lit (.int .u8 0), .lit (.int .u8 0)], .agg [.lit (.int .u8 0), .lit (.int .u8 0)], .agg [.lit (.int .u8 0), .lit (.int .u8 0)], .agg [.lit (.int .u8 0), .lit (.int .u8 0)], .agg [.lit (.int .u8 0), .lit (.int .u8 0)], .agg [.lit (.int .u8 0), .lit (.int .u8 0)], .agg [.lit (.int .u8 0), .lit (.int .u8 0)], .agg [.lit (.int .u8 0), .lit (.int .u8 0)], .agg [.lit (.int .u8 0), .lit (.int .u8 0)]]
/-- One of Go's own tables, pinned by name: the form's constant. -/
def laid_unicode_utf8_first : DataW Unit := Go.Pinned.utf8First
def laid_github_com_evanw_esbuild_internal_ast_InvalidRef {H : Type} : DataW H := .agg [.lit (.int .u32 4294967295), .lit (.int .u32 4294967295)]

/-- 'n011_224.FnDuplicateCaseCheckStoresFirstOfEachHash': WHATEVER THE INPUT: true; the input reads as it did. -/
def fnDuplicateCaseCheckStoresFirstOfEachHashSpec : ChangeSpec := { name := "fnDuplicateCaseCheckStoresFirstOfEachHash", fn := fun _ => fun
  | [d] => { results := [.lit (.bool true)], args := [d] }
  | _ => none }
def fnDuplicateCaseCheckStoresFirstOfEachHashRow : OpenClaim := { program := "ytjlmaingeobgeaadoor", sum := "73bd603daacdca875ab9d425d082959f9f69f564457dfce97137ac7e54d8e00e", func := "github.com/evanw/esbuild/n011_224.FnDuplicateCaseCheckStoresFirstOfEachHash", spec := "fnDuplicateCaseCheckStoresFirstOfEachHash", inPlace := ["math.Float64bits"], unfollowed := true, recurses := true, named := ["unicode/utf8.first", "unicode/utf8.acceptRanges"], plainKeys := false, apart := false, laid := [("unicode/utf8.acceptRanges", laid_unicode_utf8_acceptRanges), ("unicode/utf8.first", laid_unicode_utf8_first)] }
def FnDuplicateCaseCheckStoresFirstOfEachHashSaid : Prop := fnDuplicateCaseCheckStoresFirstOfEachHashRow.holds Tryd.pinned (OpenSpec.ofChange fnDuplicateCaseCheckStoresFirstOfEachHashSpec)

/-- ITS FALSE NEIGHBOUR: 'it returns false'. Refute it at one input. -/
def fnDuplicateCaseCheckStoresFirstOfEachHashWrong : ChangeSpec := { name := "fnDuplicateCaseCheckStoresFirstOfEachHash", fn := fun _ => fun
  | [d] => { results := [.lit (.bool false)], args := [d] }
  | _ => none }
def FnDuplicateCaseCheckStoresFirstOfEachHashWrongFalsely : Prop := fnDuplicateCaseCheckStoresFirstOfEachHashRow.holds Tryd.pinned (OpenSpec.ofChange fnDuplicateCaseCheckStoresFirstOfEachHashWrong)

/-- 'n011_224.FnDuplicateCaseCheckIgnoresUnhashable': WHATEVER THE INPUT: true; the input reads as it did. -/
def fnDuplicateCaseCheckIgnoresUnhashableSpec : ChangeSpec := { name := "fnDuplicateCaseCheckIgnoresUnhashable", fn := fun _ => fun
  | [d1, d2] => { results := [.lit (.bool true)], args := [d1, d2] }
  | _ => none }
def fnDuplicateCaseCheckIgnoresUnhashableRow : OpenClaim := { program := "ytjlmaingeobgeaadoor", sum := "73bd603daacdca875ab9d425d082959f9f69f564457dfce97137ac7e54d8e00e", func := "github.com/evanw/esbuild/n011_224.FnDuplicateCaseCheckIgnoresUnhashable", spec := "fnDuplicateCaseCheckIgnoresUnhashable", inPlace := ["math.Float64bits"], unfollowed := true, recurses := true, named := ["unicode/utf8.first", "unicode/utf8.acceptRanges"], plainKeys := false, apart := false, laid := [("unicode/utf8.acceptRanges", laid_unicode_utf8_acceptRanges), ("unicode/utf8.first", laid_unicode_utf8_first)] }
def FnDuplicateCaseCheckIgnoresUnhashableSaid : Prop := fnDuplicateCaseCheckIgnoresUnhashableRow.holds Tryd.pinned (OpenSpec.ofChange fnDuplicateCaseCheckIgnoresUnhashableSpec)

/-- ITS FALSE NEIGHBOUR: 'it returns false'. Refute it at one input. -/
def fnDuplicateCaseCheckIgnoresUnhashableWrong : ChangeSpec := { name := "fnDuplicateCaseCheckIgnoresUnhashable", fn := fun _ => fun
  | [d1, d2] => { results := [.lit (.bool false)], args := [d1, d2] }
  | _ => none }
def FnDuplicateCaseCheckIgnoresUnhashableWrongFalsely : Prop := fnDuplicateCaseCheckIgnoresUnhashableRow.holds Tryd.pinned (OpenSpec.ofChange fnDuplicateCaseCheckIgnoresUnhashableWrong)

/-- 'n011_249.FnObjectSpreadMatchesRightToLeftChain': WHATEVER THE INPUT: true; the input reads as it did. -/
def fnObjectSpreadMatchesRightToLeftChainSpec : ChangeSpec := { name := "fnObjectSpreadMatchesRightToLeftChain", vars := ["github.com/evanw/esbuild/internal/ast.InvalidRef"], fn := fun _ => fun
  | [d1, d2, d3, d4, g1] => { results := [.lit (.bool true)], args := [d1, d2, d3, d4], vars := [g1] }
  | _ => none }
def fnObjectSpreadMatchesRightToLeftChainRow : OpenClaim := { program := "ytjlmaingeobgeaadoor", sum := "73bd603daacdca875ab9d425d082959f9f69f564457dfce97137ac7e54d8e00e", func := "github.com/evanw/esbuild/n011_249.FnObjectSpreadMatchesRightToLeftChain", spec := "fnObjectSpreadMatchesRightToLeftChain", named := ["github.com/evanw/esbuild/internal/ast.InvalidRef"], plainKeys := false, apart := false, laid := [("github.com/evanw/esbuild/internal/ast.InvalidRef", laid_github_com_evanw_esbuild_internal_ast_InvalidRef)] }
def FnObjectSpreadMatchesRightToLeftChainSaid : Prop := fnObjectSpreadMatchesRightToLeftChainRow.holds Tryd.pinned (OpenSpec.ofChange fnObjectSpreadMatchesRightToLeftChainSpec)

/-- ITS FALSE NEIGHBOUR: 'it returns false'. Refute it at one input. -/
def fnObjectSpreadMatchesRightToLeftChainWrong : ChangeSpec := { name := "fnObjectSpreadMatchesRightToLeftChain", vars := ["github.com/evanw/esbuild/internal/ast.InvalidRef"], fn := fun _ => fun
  | [d1, d2, d3, d4, g1] => { results := [.lit (.bool false)], args := [d1, d2, d3, d4], vars := [g1] }
  | _ => none }
def FnObjectSpreadMatchesRightToLeftChainWrongFalsely : Prop := fnObjectSpreadMatchesRightToLeftChainRow.holds Tryd.pinned (OpenSpec.ofChange fnObjectSpreadMatchesRightToLeftChainWrong)

/-- 'n011_190.FnRemapLocsInJSONComposesAsOneShift': WHATEVER THE INPUT: true; the input reads as it did. -/
def fnRemapLocsInJSONComposesAsOneShiftSpec : ChangeSpec := { name := "fnRemapLocsInJSONComposesAsOneShift", fn := fun _ => fun
  | [d1, d2, d3, d4, d5, d6] => { results := [.lit (.bool true)], args := [d1, d2, d3, d4, d5, d6] }
  | _ => none }
def fnRemapLocsInJSONComposesAsOneShiftRow : OpenClaim := { program := "ytjlmaingeobgeaadoor", sum := "73bd603daacdca875ab9d425d082959f9f69f564457dfce97137ac7e54d8e00e", func := "github.com/evanw/esbuild/n011_190.FnRemapLocsInJSONComposesAsOneShift", spec := "fnRemapLocsInJSONComposesAsOneShift", recurses := true, named := ["unicode/utf8.first", "unicode/utf8.acceptRanges"], plainKeys := false, apart := false, laid := [("unicode/utf8.acceptRanges", laid_unicode_utf8_acceptRanges), ("unicode/utf8.first", laid_unicode_utf8_first)] }
def FnRemapLocsInJSONComposesAsOneShiftSaid : Prop := fnRemapLocsInJSONComposesAsOneShiftRow.holds Tryd.pinned (OpenSpec.ofChange fnRemapLocsInJSONComposesAsOneShiftSpec)

/-- ITS FALSE NEIGHBOUR: 'it returns false'. Refute it at one input. -/
def fnRemapLocsInJSONComposesAsOneShiftWrong : ChangeSpec := { name := "fnRemapLocsInJSONComposesAsOneShift", fn := fun _ => fun
  | [d1, d2, d3, d4, d5, d6] => { results := [.lit (.bool false)], args := [d1, d2, d3, d4, d5, d6] }
  | _ => none }
def FnRemapLocsInJSONComposesAsOneShiftWrongFalsely : Prop := fnRemapLocsInJSONComposesAsOneShiftRow.holds Tryd.pinned (OpenSpec.ofChange fnRemapLocsInJSONComposesAsOneShiftWrong)

/-- 'n011_190.FnRemapLocsInJSONShiftsByOpeningQuote': WHATEVER THE INPUT: true; the input reads as it did. -/
def fnRemapLocsInJSONShiftsByOpeningQuoteSpec : ChangeSpec := { name := "fnRemapLocsInJSONShiftsByOpeningQuote", fn := fun _ => fun
  | [d1, d2, d3] => { results := [.lit (.bool true)], args := [d1, d2, d3] }
  | _ => none }
def fnRemapLocsInJSONShiftsByOpeningQuoteRow : OpenClaim := { program := "ytjlmaingeobgeaadoor", sum := "73bd603daacdca875ab9d425d082959f9f69f564457dfce97137ac7e54d8e00e", func := "github.com/evanw/esbuild/n011_190.FnRemapLocsInJSONShiftsByOpeningQuote", spec := "fnRemapLocsInJSONShiftsByOpeningQuote", recurses := true, named := ["unicode/utf8.first", "unicode/utf8.acceptRanges"], plainKeys := false, apart := false, laid := [("unicode/utf8.acceptRanges", laid_unicode_utf8_acceptRanges), ("unicode/utf8.first", laid_unicode_utf8_first)] }
def FnRemapLocsInJSONShiftsByOpeningQuoteSaid : Prop := fnRemapLocsInJSONShiftsByOpeningQuoteRow.holds Tryd.pinned (OpenSpec.ofChange fnRemapLocsInJSONShiftsByOpeningQuoteSpec)

/-- ITS FALSE NEIGHBOUR: 'it returns false'. Refute it at one input. -/
def fnRemapLocsInJSONShiftsByOpeningQuoteWrong : ChangeSpec := { name := "fnRemapLocsInJSONShiftsByOpeningQuote", fn := fun _ => fun
  | [d1, d2, d3] => { results := [.lit (.bool false)], args := [d1, d2, d3] }
  | _ => none }
def FnRemapLocsInJSONShiftsByOpeningQuoteWrongFalsely : Prop := fnRemapLocsInJSONShiftsByOpeningQuoteRow.holds Tryd.pinned (OpenSpec.ofChange fnRemapLocsInJSONShiftsByOpeningQuoteWrong)

/- THE SECOND FORM. 'bulk': how many values and letters a reading holds, each counted each time it is reached (what is shared counts as often as it is met; a slice's spare places count too). A statement '..UptoSaid' is the law's where the arguments, and the package variables that the reading takes, are together of bulk at most 1048576: NARROWER than '..Said'. Prove '..Said' where nothing that the law and all that it calls make is longer than what came in: it says more and counts as full. Else prove '..UptoSaid'. A law counts once. -/
mutual
def uptoBulk {H : Type} : DataW H → Nat
  | .lit (.string bytes) => bytes.length + 1
  | .lit _ => 1
  | .nil => 1
  | .ptr d => uptoBulk d + 1
  | .slice elems spare => uptoBulkAll elems + uptoBulkAll spare + 1
  | .agg parts => uptoBulkAll parts + 1
  | .iface _ d => uptoBulk d + 1
  | .map entries => uptoBulkEntries entries + 1
  | .held _ => 1
def uptoBulkAll {H : Type} : List (DataW H) → Nat
  | [] => 0
  | d :: r => uptoBulk d + uptoBulkAll r
def uptoBulkEntries {H : Type} : List (Lit × DataW H) → Nat
  | [] => 0
  | x :: r => uptoBulkEntry x + uptoBulkEntries r
def uptoBulkEntry {H : Type} : Lit × DataW H → Nat
  | (.string bytes, d) => bytes.length + uptoBulk d + 1
  | (_, d) => uptoBulk d + 1
 end
def uptoSmall : (H : Type) → List (DataW H) → Bool := fun _ ds => decide (uptoBulkAll ds ≤ 1048576)
def OpenSpec.upto (s : _root_.Go.ChangeSpec) : _root_.Go.OpenSpec := { _root_.Go.OpenSpec.ofChange s with cond := some uptoSmall }

/-- 'n011_224.FnDuplicateCaseCheckStoresFirstOfEachHash', WHERE WHAT IT READS IS OF BULK AT MOST 1048576: true; the input reads as it did. -/
def fnDuplicateCaseCheckStoresFirstOfEachHashUptoRow : OpenClaim := { program := "ytjlmaingeobgeaadoor", sum := "73bd603daacdca875ab9d425d082959f9f69f564457dfce97137ac7e54d8e00e", func := "github.com/evanw/esbuild/n011_224.FnDuplicateCaseCheckStoresFirstOfEachHash", spec := "fnDuplicateCaseCheckStoresFirstOfEachHash", inPlace := ["math.Float64bits"], unfollowed := true, recurses := true, named := ["unicode/utf8.first", "unicode/utf8.acceptRanges"], plainKeys := false, apart := false, laid := [("unicode/utf8.acceptRanges", laid_unicode_utf8_acceptRanges), ("unicode/utf8.first", laid_unicode_utf8_first)], narrowed := true }
def FnDuplicateCaseCheckStoresFirstOfEachHashUptoSaid : Prop := fnDuplicateCaseCheckStoresFirstOfEachHashUptoRow.holds Tryd.pinned (OpenSpec.upto fnDuplicateCaseCheckStoresFirstOfEachHashSpec)

/-- 'n011_224.FnDuplicateCaseCheckIgnoresUnhashable', WHERE WHAT IT READS IS OF BULK AT MOST 1048576: true; the input reads as it did. -/
def fnDuplicateCaseCheckIgnoresUnhashableUptoRow : OpenClaim := { program := "ytjlmaingeobgeaadoor", sum := "73bd603daacdca875ab9d425d082959f9f69f564457dfce97137ac7e54d8e00e", func := "github.com/evanw/esbuild/n011_224.FnDuplicateCaseCheckIgnoresUnhashable", spec := "fnDuplicateCaseCheckIgnoresUnhashable", inPlace := ["math.Float64bits"], unfollowed := true, recurses := true, named := ["unicode/utf8.first", "unicode/utf8.acceptRanges"], plainKeys := false, apart := false, laid := [("unicode/utf8.acceptRanges", laid_unicode_utf8_acceptRanges), ("unicode/utf8.first", laid_unicode_utf8_first)], narrowed := true }
def FnDuplicateCaseCheckIgnoresUnhashableUptoSaid : Prop := fnDuplicateCaseCheckIgnoresUnhashableUptoRow.holds Tryd.pinned (OpenSpec.upto fnDuplicateCaseCheckIgnoresUnhashableSpec)

/-- 'n011_249.FnObjectSpreadMatchesRightToLeftChain', WHERE WHAT IT READS IS OF BULK AT MOST 1048576: true; the input reads as it did. -/
def fnObjectSpreadMatchesRightToLeftChainUptoRow : OpenClaim := { program := "ytjlmaingeobgeaadoor", sum := "73bd603daacdca875ab9d425d082959f9f69f564457dfce97137ac7e54d8e00e", func := "github.com/evanw/esbuild/n011_249.FnObjectSpreadMatchesRightToLeftChain", spec := "fnObjectSpreadMatchesRightToLeftChain", named := ["github.com/evanw/esbuild/internal/ast.InvalidRef"], plainKeys := false, apart := false, laid := [("github.com/evanw/esbuild/internal/ast.InvalidRef", laid_github_com_evanw_esbuild_internal_ast_InvalidRef)], narrowed := true }
def FnObjectSpreadMatchesRightToLeftChainUptoSaid : Prop := fnObjectSpreadMatchesRightToLeftChainUptoRow.holds Tryd.pinned (OpenSpec.upto fnObjectSpreadMatchesRightToLeftChainSpec)

/-- 'n011_190.FnRemapLocsInJSONComposesAsOneShift', WHERE WHAT IT READS IS OF BULK AT MOST 1048576: true; the input reads as it did. -/
def fnRemapLocsInJSONComposesAsOneShiftUptoRow : OpenClaim := { program := "ytjlmaingeobgeaadoor", sum := "73bd603daacdca875ab9d425d082959f9f69f564457dfce97137ac7e54d8e00e", func := "github.com/evanw/esbuild/n011_190.FnRemapLocsInJSONComposesAsOneShift", spec := "fnRemapLocsInJSONComposesAsOneShift", recurses := true, named := ["unicode/utf8.first", "unicode/utf8.acceptRanges"], plainKeys := false, apart := false, laid := [("unicode/utf8.acceptRanges", laid_unicode_utf8_acceptRanges), ("unicode/utf8.first", laid_unicode_utf8_first)], narrowed := true }
def FnRemapLocsInJSONComposesAsOneShiftUptoSaid : Prop := fnRemapLocsInJSONComposesAsOneShiftUptoRow.holds Tryd.pinned (OpenSpec.upto fnRemapLocsInJSONComposesAsOneShiftSpec)

/-- 'n011_190.FnRemapLocsInJSONShiftsByOpeningQuote', WHERE WHAT IT READS IS OF BULK AT MOST 1048576: true; the input reads as it did. -/
def fnRemapLocsInJSONShiftsByOpeningQuoteUptoRow : OpenClaim := { program := "ytjlmaingeobgeaadoor", sum := "73bd603daacdca875ab9d425d082959f9f69f564457dfce97137ac7e54d8e00e", func := "github.com/evanw/esbuild/n011_190.FnRemapLocsInJSONShiftsByOpeningQuote", spec := "fnRemapLocsInJSONShiftsByOpeningQuote", recurses := true, named := ["unicode/utf8.first", "unicode/utf8.acceptRanges"], plainKeys := false, apart := false, laid := [("unicode/utf8.acceptRanges", laid_unicode_utf8_acceptRanges), ("unicode/utf8.first", laid_unicode_utf8_first)], narrowed := true }
def FnRemapLocsInJSONShiftsByOpeningQuoteUptoSaid : Prop := fnRemapLocsInJSONShiftsByOpeningQuoteUptoRow.holds Tryd.pinned (OpenSpec.upto fnRemapLocsInJSONShiftsByOpeningQuoteSpec)

end Rows
end Go.Proofs.YtjlmaingeobgeaaDoor
