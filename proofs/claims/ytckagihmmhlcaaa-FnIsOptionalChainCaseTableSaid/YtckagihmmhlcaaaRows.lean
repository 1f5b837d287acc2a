/-
  No cell of these rows narrows 'for every input' (looked for: loops, veiled, ifaces, maps, wideKeys, modest, calm, conditions, laid).
  DERIVED. THE GIVEN ROWS OF THIS SEAT. 5 by the template 'for every input the law returns true; each argument reads behind the call as it read before'; 0 by the template 'total and deterministic' (their statements: YtckagihmmhlcaaaTotals.lean).
  GIVEN WITH THE SEED: the statements are not yours to turn. If you find one false, say at which input.
  Laid BY PROGRAM, IN A SANDBOX (cutbox-rows.mjs): the forced cells as the released guide's own fill.sh prints them over the translation 196776853c1afa59… (all of the seat's roots in one cut). By AI agents, Wed Nov 11 2026. No macro, syntax, notation, axiom, sorry.
-/
import Derived.Test.YtckagihmmhlcaaaChecked
import GoSem.Claim
import GoSem.ClaimJoined
import GoSem.ClaimMapViews
import Derived.JoinedTies
import Derived.KernelRfl
namespace Go.Proofs.Ytckagihmmhlcaaa
/- THE CELL 'sum', in the pinned program and in every row, IS THE sha256 OF THE DUMP (.gsa) THAT YtckagihmmhlcaaaProg.lean LOADS. Nothing in Lean hashes anything: it is a label: what it is worth is what the hold of that sum in a sandbox is worth. -/
noncomputable def Try.pinned : Pinned := { name := "ytckagihmmhlcaaa", sum := "196776853c1afa593ac7e1eeac87b9fce35416a8f2f630b3e85b714ab6aa135a", checked := Try.checked }
namespace Rows
def none {H : Type} : Left H := { results := [], args := [] }

/-- 'n011_229.FnHasMatchesCommonBitModel': WHATEVER THE INPUT: true; the input reads as it did. -/
def fnHasMatchesCommonBitModelSpec : ChangeSpec := { name := "fnHasMatchesCommonBitModel", fn := fun _ => fun
  | [d1, d2] => { results := [.lit (.bool true)], args := [d1, d2] }
  | _ => none }
def fnHasMatchesCommonBitModelRow : OpenClaim := { program := "ytckagihmmhlcaaa", sum := "196776853c1afa593ac7e1eeac87b9fce35416a8f2f630b3e85b714ab6aa135a", func := "github.com/evanw/esbuild/n011_229.FnHasMatchesCommonBitModel", spec := "fnHasMatchesCommonBitModel", plainKeys := false, apart := false }
def FnHasMatchesCommonBitModelSaid : Prop := fnHasMatchesCommonBitModelRow.holds Try.pinned (OpenSpec.ofChange fnHasMatchesCommonBitModelSpec)

/-- ITS FALSE NEIGHBOUR: 'it returns false'. Refute it at one input. -/
def fnHasMatchesCommonBitModelWrong : ChangeSpec := { name := "fnHasMatchesCommonBitModel", fn := fun _ => fun
  | [d1, d2] => { results := [.lit (.bool false)], args := [d1, d2] }
  | _ => none }
def FnHasMatchesCommonBitModelWrongFalsely : Prop := fnHasMatchesCommonBitModelRow.holds Try.pinned (OpenSpec.ofChange fnHasMatchesCommonBitModelWrong)

/-- 'n011_120.FnIsJumpStatementCaseTable': WHATEVER THE INPUT: true; the input reads as it did. -/
def fnIsJumpStatementCaseTableSpec : ChangeSpec := { name := "fnIsJumpStatementCaseTable", fn := fun _ => fun
  | [d1, d2, d3, d4, d5] => { results := [.lit (.bool true)], args := [d1, d2, d3, d4, d5] }
  | _ => none }
def fnIsJumpStatementCaseTableRow : OpenClaim := { program := "ytckagihmmhlcaaa", sum := "196776853c1afa593ac7e1eeac87b9fce35416a8f2f630b3e85b714ab6aa135a", func := "github.com/evanw/esbuild/n011_120.FnIsJumpStatementCaseTable", spec := "fnIsJumpStatementCaseTable", plainKeys := false, apart := false }
def FnIsJumpStatementCaseTableSaid : Prop := fnIsJumpStatementCaseTableRow.holds Try.pinned (OpenSpec.ofChange fnIsJumpStatementCaseTableSpec)

/-- ITS FALSE NEIGHBOUR: 'it returns false'. Refute it at one input. -/
def fnIsJumpStatementCaseTableWrong : ChangeSpec := { name := "fnIsJumpStatementCaseTable", fn := fun _ => fun
  | [d1, d2, d3, d4, d5] => { results := [.lit (.bool false)], args := [d1, d2, d3, d4, d5] }
  | _ => none }
def FnIsJumpStatementCaseTableWrongFalsely : Prop := fnIsJumpStatementCaseTableRow.holds Try.pinned (OpenSpec.ofChange fnIsJumpStatementCaseTableWrong)

/-- 'n011_118.FnLocAfterOpOrderFree': WHATEVER THE INPUT: true; the input reads as it did. -/
def fnLocAfterOpOrderFreeSpec : ChangeSpec := { name := "fnLocAfterOpOrderFree", fn := fun _ => fun
  | [d1, d2] => { results := [.lit (.bool true)], args := [d1, d2] }
  | _ => none }
def fnLocAfterOpOrderFreeRow : OpenClaim := { program := "ytckagihmmhlcaaa", sum := "196776853c1afa593ac7e1eeac87b9fce35416a8f2f630b3e85b714ab6aa135a", func := "github.com/evanw/esbuild/n011_118.FnLocAfterOpOrderFree", spec := "fnLocAfterOpOrderFree", plainKeys := false, apart := false }
def FnLocAfterOpOrderFreeSaid : Prop := fnLocAfterOpOrderFreeRow.holds Try.pinned (OpenSpec.ofChange fnLocAfterOpOrderFreeSpec)

/-- ITS FALSE NEIGHBOUR: 'it returns false'. Refute it at one input. -/
def fnLocAfterOpOrderFreeWrong : ChangeSpec := { name := "fnLocAfterOpOrderFree", fn := fun _ => fun
  | [d1, d2] => { results := [.lit (.bool false)], args := [d1, d2] }
  | _ => none }
def FnLocAfterOpOrderFreeWrongFalsely : Prop := fnLocAfterOpOrderFreeRow.holds Try.pinned (OpenSpec.ofChange fnLocAfterOpOrderFreeWrong)

/-- 'n011_35.FnIsOptionalChainCaseTable': WHATEVER THE INPUT: true; the input reads as it did. -/
def fnIsOptionalChainCaseTableSpec : ChangeSpec := { name := "fnIsOptionalChainCaseTable", fn := fun _ => fun
  | [d1, d2, d3, d4, d5] => { results := [.lit (.bool true)], args := [d1, d2, d3, d4, d5] }
  | _ => none }
def fnIsOptionalChainCaseTableRow : OpenClaim := { program := "ytckagihmmhlcaaa", sum := "196776853c1afa593ac7e1eeac87b9fce35416a8f2f630b3e85b714ab6aa135a", func := "github.com/evanw/esbuild/n011_35.FnIsOptionalChainCaseTable", spec := "fnIsOptionalChainCaseTable", plainKeys := false, apart := false }
def FnIsOptionalChainCaseTableSaid : Prop := fnIsOptionalChainCaseTableRow.holds Try.pinned (OpenSpec.ofChange fnIsOptionalChainCaseTableSpec)

/-- ITS FALSE NEIGHBOUR: 'it returns false'. Refute it at one input. -/
def fnIsOptionalChainCaseTableWrong : ChangeSpec := { name := "fnIsOptionalChainCaseTable", fn := fun _ => fun
  | [d1, d2, d3, d4, d5] => { results := [.lit (.bool false)], args := [d1, d2, d3, d4, d5] }
  | _ => none }
def FnIsOptionalChainCaseTableWrongFalsely : Prop := fnIsOptionalChainCaseTableRow.holds Try.pinned (OpenSpec.ofChange fnIsOptionalChainCaseTableWrong)

/-- 'n011_159.FnWillNeedBindingPatternTable': WHATEVER THE INPUT: true; the input reads as it did. -/
def fnWillNeedBindingPatternTableSpec : ChangeSpec := { name := "fnWillNeedBindingPatternTable", fn := fun _ => fun
  | [d1, d2] => { results := [.lit (.bool true)], args := [d1, d2] }
  | _ => none }
def fnWillNeedBindingPatternTableRow : OpenClaim := { program := "ytckagihmmhlcaaa", sum := "196776853c1afa593ac7e1eeac87b9fce35416a8f2f630b3e85b714ab6aa135a", func := "github.com/evanw/esbuild/n011_159.FnWillNeedBindingPatternTable", spec := "fnWillNeedBindingPatternTable", plainKeys := false, apart := false }
def FnWillNeedBindingPatternTableSaid : Prop := fnWillNeedBindingPatternTableRow.holds Try.pinned (OpenSpec.ofChange fnWillNeedBindingPatternTableSpec)

/-- ITS FALSE NEIGHBOUR: 'it returns false'. Refute it at one input. -/
def fnWillNeedBindingPatternTableWrong : ChangeSpec := { name := "fnWillNeedBindingPatternTable", fn := fun _ => fun
  | [d1, d2] => { results := [.lit (.bool false)], args := [d1, d2] }
  | _ => none }
def FnWillNeedBindingPatternTableWrongFalsely : Prop := fnWillNeedBindingPatternTableRow.holds Try.pinned (OpenSpec.ofChange fnWillNeedBindingPatternTableWrong)

/- THE SECOND FORM. 'bulk': how many values and letters a reading holds, each counted each time it is reached (what is shared counts as often as it is met; a slice's spare places count too). A statement '..UptoSaid' is the law's where the arguments, and the package variables that the reading takes, are together of bulk at most 1048576: NARROWER than '..Said'. Prove '..Said' where nothing that the law and all that it calls make is longer than what came in: it says more and counts as full. Else prove '..UptoSaid'. A law counts once. -/
mutual
def uptoBulk {H : Type} : DataW H → Nat
  | .lit (.string bytes) => bytes.length + 1
  | .lit _ => 1
  | .nil => 1
  | .ptr d => uptoBulk d + 1
  | .slice elems spare => uptoBulkAll elems + uptoBulkAll spare + 1
  | .agg parts => uptoBulkAll parts + 1
  | .iface _ d => uptoBulk d + 1
  | .map entries => uptoBulkEntries entries + 1
  | .held _ => 1
def uptoBulkAll {H : Type} : List (DataW H) → Nat
  | [] => 0
  | d :: r => uptoBulk d + uptoBulkAll r
def uptoBulkEntries {H : Type} : List (Lit × DataW H) → Nat
  | [] => 0
  | x :: r => uptoBulkEntry x + uptoBulkEntries r
def uptoBulkEntry {H : Type} : Lit × DataW H → Nat
  | (.string bytes, d) => bytes.length + uptoBulk d + 1
  | (_, d) => uptoBulk d + 1
 end
def uptoSmall : (H : Type) → List (DataW H) → Bool := fun _ ds => decide (uptoBulkAll ds ≤ 1048576)
def OpenSpec.upto (s : _root_.Go.ChangeSpec) : _root_.Go.OpenSpec := { _root_.Go.OpenSpec.ofChange s with cond := some uptoSmall }

/-- 'n011_229.FnHasMatchesCommonBitModel', WHERE WHAT IT READS IS OF BULK AT MOST 1048576: true; the input reads as it did. -/
def fnHasMatchesCommonBitModelUptoRow : OpenClaim := { program := "ytckagihmmhlcaaa", sum := "196776853c1afa593ac7e1eeac87b9fce35416a8f2f630b3e85b714ab6aa135a", func := "github.com/evanw/esbuild/n011_229.FnHasMatchesCommonBitModel", spec := "fnHasMatchesCommonBitModel", plainKeys := false, apart := false, narrowed := true }
def FnHasMatchesCommonBitModelUptoSaid : Prop := fnHasMatchesCommonBitModelUptoRow.holds Try.pinned (OpenSpec.upto fnHasMatchesCommonBitModelSpec)

/-- 'n011_120.FnIsJumpStatementCaseTable', WHERE WHAT IT READS IS OF BULK AT MOST 1048576: true; the input reads as it did. -/
def fnIsJumpStatementCaseTableUptoRow : OpenClaim := { program := "ytckagihmmhlcaaa", sum := "196776853c1afa593ac7e1eeac87b9fce35416a8f2f630b3e85b714ab6aa135a", func := "github.com/evanw/esbuild/n011_120.FnIsJumpStatementCaseTable", spec := "fnIsJumpStatementCaseTable", plainKeys := false, apart := false, narrowed := true }
def FnIsJumpStatementCaseTableUptoSaid : Prop := fnIsJumpStatementCaseTableUptoRow.holds Try.pinned (OpenSpec.upto fnIsJumpStatementCaseTableSpec)

/-- 'n011_118.FnLocAfterOpOrderFree', WHERE WHAT IT READS IS OF BULK AT MOST 1048576: true; the input reads as it did. -/
def fnLocAfterOpOrderFreeUptoRow : OpenClaim := { program := "ytckagihmmhlcaaa", sum := "196776853c1afa593ac7e1eeac87b9fce35416a8f2f630b3e85b714ab6aa135a", func := "github.com/evanw/esbuild/n011_118.FnLocAfterOpOrderFree", spec := "fnLocAfterOpOrderFree", plainKeys := false, apart := false, narrowed := true }
def FnLocAfterOpOrderFreeUptoSaid : Prop := fnLocAfterOpOrderFreeUptoRow.holds Try.pinned (OpenSpec.upto fnLocAfterOpOrderFreeSpec)

/-- 'n011_35.FnIsOptionalChainCaseTable', WHERE WHAT IT READS IS OF BULK AT MOST 1048576: true; the input reads as it did. -/
def fnIsOptionalChainCaseTableUptoRow : OpenClaim := { program := "ytckagihmmhlcaaa", sum := "196776853c1afa593ac7e1eeac87b9fce35416a8f2f630b3e85b714ab6aa135a", func := "github.com/evanw/esbuild/n011_35.FnIsOptionalChainCaseTable", spec := "fnIsOptionalChainCaseTable", plainKeys := false, apart := false, narrowed := true }
def FnIsOptionalChainCaseTableUptoSaid : Prop := fnIsOptionalChainCaseTableUptoRow.holds Try.pinned (OpenSpec.upto fnIsOptionalChainCaseTableSpec)

/-- 'n011_159.FnWillNeedBindingPatternTable', WHERE WHAT IT READS IS OF BULK AT MOST 1048576: true; the input reads as it did. -/
def fnWillNeedBindingPatternTableUptoRow : OpenClaim := { program := "ytckagihmmhlcaaa", sum := "196776853c1afa593ac7e1eeac87b9fce35416a8f2f630b3e85b714ab6aa135a", func := "github.com/evanw/esbuild/n011_159.FnWillNeedBindingPatternTable", spec := "fnWillNeedBindingPatternTable", plainKeys := false, apart := false, narrowed := true }
def FnWillNeedBindingPatternTableUptoSaid : Prop := fnWillNeedBindingPatternTableUptoRow.holds Try.pinned (OpenSpec.upto fnWillNeedBindingPatternTableSpec)

end Rows
end Go.Proofs.Ytckagihmmhlcaaa
