/-
  No cell of these rows narrows 'for every input' (looked for: loops, veiled, ifaces, maps, wideKeys, modest, calm, conditions, laid).
  DERIVED. THE GIVEN ROWS OF THIS SEAT. 3 by the template 'for every input the law returns true; each argument reads behind the call as it read before'; 0 by the template 'total and deterministic' (their statements: YtonhekaakddneaaRRRTotals.lean).
  GIVEN WITH THE SEED: the statements are not yours to turn. If you find one false, say at which input.
  Laid BY PROGRAM, IN A SANDBOX (cutbox-rows.mjs): the forced cells as the released guide's own fill.sh prints them over the translation 5d027b680f9aba15… (all of the seat's roots in one cut). By AI agents, Wed Nov 11 2026. No macro, syntax, notation, axiom, sorry.
-/
import Derived.Test.YtonhekaakddneaaRRRChecked
import GoSem.Claim
import GoSem.ClaimJoined
import GoSem.ClaimMapViews
import Derived.JoinedTies
import Derived.KernelRfl
namespace Go.Proofs.YtonhekaakddneaaRRR
/- THE CELL 'sum', in the pinned program and in every row, IS THE sha256 OF THE DUMP (.gsa) THAT YtonhekaakddneaaRRRProg.lean LOADS. Nothing in Lean hashes anything: it is a label: what it is worth is what the hold of that sum in a sandbox is worth. -/
noncomputable def Try.pinned : Pinned := { name := "ytonhekaakddneaarrr", sum := "5d027b680f9aba154f2b642703b361744c38b8a1322330402f923c5f71f452e8", checked := Try.checked }
namespace Rows
def none {H : Type} : Left H := { results := [], args := [] }

/-- 'n011_90.FnIsBinaryNullAndUndefinedExactShape': WHATEVER THE INPUT: true; the input reads as it did. -/
def fnIsBinaryNullAndUndefinedExactShapeSpec : ChangeSpec := { name := "fnIsBinaryNullAndUndefinedExactShape", fn := fun _ => fun
  | [d1, d2, d3, d4, d5, d6, d7, d8, d9, d10, d11] => { results := [.lit (.bool true)], args := [d1, d2, d3, d4, d5, d6, d7, d8, d9, d10, d11] }
  | _ => none }
def fnIsBinaryNullAndUndefinedExactShapeRow : OpenClaim := { program := "ytonhekaakddneaarrr", sum := "5d027b680f9aba154f2b642703b361744c38b8a1322330402f923c5f71f452e8", func := "github.com/evanw/esbuild/n011_90.FnIsBinaryNullAndUndefinedExactShape", spec := "fnIsBinaryNullAndUndefinedExactShape", apart := false }
def FnIsBinaryNullAndUndefinedExactShapeSaid : Prop := fnIsBinaryNullAndUndefinedExactShapeRow.holds Try.pinned (OpenSpec.ofChange fnIsBinaryNullAndUndefinedExactShapeSpec)

/-- ITS FALSE NEIGHBOUR: 'it returns false'. Refute it at one input. -/
def fnIsBinaryNullAndUndefinedExactShapeWrong : ChangeSpec := { name := "fnIsBinaryNullAndUndefinedExactShape", fn := fun _ => fun
  | [d1, d2, d3, d4, d5, d6, d7, d8, d9, d10, d11] => { results := [.lit (.bool false)], args := [d1, d2, d3, d4, d5, d6, d7, d8, d9, d10, d11] }
  | _ => none }
def FnIsBinaryNullAndUndefinedExactShapeWrongFalsely : Prop := fnIsBinaryNullAndUndefinedExactShapeRow.holds Try.pinned (OpenSpec.ofChange fnIsBinaryNullAndUndefinedExactShapeWrong)

/-- 'n011_46.FnNotLeafTable': WHATEVER THE INPUT: true; the input reads as it did. -/
def fnNotLeafTableSpec : ChangeSpec := { name := "fnNotLeafTable", fn := fun _ => fun
  | [d1, d2, d3, d4, d5, d6] => { results := [.lit (.bool true)], args := [d1, d2, d3, d4, d5, d6] }
  | _ => none }
def fnNotLeafTableRow : OpenClaim := { program := "ytonhekaakddneaarrr", sum := "5d027b680f9aba154f2b642703b361744c38b8a1322330402f923c5f71f452e8", func := "github.com/evanw/esbuild/n011_46.FnNotLeafTable", spec := "fnNotLeafTable", recurses := true, apart := false }
def FnNotLeafTableSaid : Prop := fnNotLeafTableRow.holds Try.pinned (OpenSpec.ofChange fnNotLeafTableSpec)

/-- ITS FALSE NEIGHBOUR: 'it returns false'. Refute it at one input. -/
def fnNotLeafTableWrong : ChangeSpec := { name := "fnNotLeafTable", fn := fun _ => fun
  | [d1, d2, d3, d4, d5, d6] => { results := [.lit (.bool false)], args := [d1, d2, d3, d4, d5, d6] }
  | _ => none }
def FnNotLeafTableWrongFalsely : Prop := fnNotLeafTableRow.holds Try.pinned (OpenSpec.ofChange fnNotLeafTableWrong)

/-- 'n011_46.FnMaybeSimplifyNotBinaryOpTable': WHATEVER THE INPUT: true; the input reads as it did. -/
def fnMaybeSimplifyNotBinaryOpTableSpec : ChangeSpec := { name := "fnMaybeSimplifyNotBinaryOpTable", fn := fun _ => fun
  | [d1, d2, d3, d4] => { results := [.lit (.bool true)], args := [d1, d2, d3, d4] }
  | _ => none }
def fnMaybeSimplifyNotBinaryOpTableRow : OpenClaim := { program := "ytonhekaakddneaarrr", sum := "5d027b680f9aba154f2b642703b361744c38b8a1322330402f923c5f71f452e8", func := "github.com/evanw/esbuild/n011_46.FnMaybeSimplifyNotBinaryOpTable", spec := "fnMaybeSimplifyNotBinaryOpTable", recurses := true, apart := false }
def FnMaybeSimplifyNotBinaryOpTableSaid : Prop := fnMaybeSimplifyNotBinaryOpTableRow.holds Try.pinned (OpenSpec.ofChange fnMaybeSimplifyNotBinaryOpTableSpec)

/-- ITS FALSE NEIGHBOUR: 'it returns false'. Refute it at one input. -/
def fnMaybeSimplifyNotBinaryOpTableWrong : ChangeSpec := { name := "fnMaybeSimplifyNotBinaryOpTable", fn := fun _ => fun
  | [d1, d2, d3, d4] => { results := [.lit (.bool false)], args := [d1, d2, d3, d4] }
  | _ => none }
def FnMaybeSimplifyNotBinaryOpTableWrongFalsely : Prop := fnMaybeSimplifyNotBinaryOpTableRow.holds Try.pinned (OpenSpec.ofChange fnMaybeSimplifyNotBinaryOpTableWrong)

/- THE SECOND FORM. 'bulk': how many values and letters a reading holds, each counted each time it is reached (what is shared counts as often as it is met; a slice's spare places count too). A statement '..UptoSaid' is the law's where the arguments, and the package variables that the reading takes, are together of bulk at most 1048576: NARROWER than '..Said'. Prove '..Said' where nothing that the law and all that it calls make is longer than what came in: it says more and counts as full. Else prove '..UptoSaid'. A law counts once. -/
mutual
def uptoBulk {H : Type} : DataW H → Nat
  | .lit (.string bytes) => bytes.length + 1
  | .lit _ => 1
  | .nil => 1
  | .ptr d => uptoBulk d + 1
  | .slice elems spare => uptoBulkAll elems + uptoBulkAll spare + 1
  | .agg parts => uptoBulkAll parts + 1
  | .iface _ d => uptoBulk d + 1
  | .map entries => uptoBulkEntries entries + 1
  | .held _ => 1
def uptoBulkAll {H : Type} : List (DataW H) → Nat
  | [] => 0
  | d :: r => uptoBulk d + uptoBulkAll r
def uptoBulkEntries {H : Type} : List (Lit × DataW H) → Nat
  | [] => 0
  | x :: r => uptoBulkEntry x + uptoBulkEntries r
def uptoBulkEntry {H : Type} : Lit × DataW H → Nat
  | (.string bytes, d) => bytes.length + uptoBulk d + 1
  | (_, d) => uptoBulk d + 1
 end
def uptoSmall : (H : Type) → List (DataW H) → Bool := fun _ ds => decide (uptoBulkAll ds ≤ 1048576)
def OpenSpec.upto (s : _root_.Go.ChangeSpec) : _root_.Go.OpenSpec := { _root_.Go.OpenSpec.ofChange s with cond := some uptoSmall }

/-- 'n011_90.FnIsBinaryNullAndUndefinedExactShape', WHERE WHAT IT READS IS OF BULK AT MOST 1048576: true; the input reads as it did. -/
def fnIsBinaryNullAndUndefinedExactShapeUptoRow : OpenClaim := { program := "ytonhekaakddneaarrr", sum := "5d027b680f9aba154f2b642703b361744c38b8a1322330402f923c5f71f452e8", func := "github.com/evanw/esbuild/n011_90.FnIsBinaryNullAndUndefinedExactShape", spec := "fnIsBinaryNullAndUndefinedExactShape", apart := false, narrowed := true }
def FnIsBinaryNullAndUndefinedExactShapeUptoSaid : Prop := fnIsBinaryNullAndUndefinedExactShapeUptoRow.holds Try.pinned (OpenSpec.upto fnIsBinaryNullAndUndefinedExactShapeSpec)

/-- 'n011_46.FnNotLeafTable', WHERE WHAT IT READS IS OF BULK AT MOST 1048576: true; the input reads as it did. -/
def fnNotLeafTableUptoRow : OpenClaim := { program := "ytonhekaakddneaarrr", sum := "5d027b680f9aba154f2b642703b361744c38b8a1322330402f923c5f71f452e8", func := "github.com/evanw/esbuild/n011_46.FnNotLeafTable", spec := "fnNotLeafTable", recurses := true, apart := false, narrowed := true }
def FnNotLeafTableUptoSaid : Prop := fnNotLeafTableUptoRow.holds Try.pinned (OpenSpec.upto fnNotLeafTableSpec)

/-- 'n011_46.FnMaybeSimplifyNotBinaryOpTable', WHERE WHAT IT READS IS OF BULK AT MOST 1048576: true; the input reads as it did. -/
def fnMaybeSimplifyNotBinaryOpTableUptoRow : OpenClaim := { program := "ytonhekaakddneaarrr", sum := "5d027b680f9aba154f2b642703b361744c38b8a1322330402f923c5f71f452e8", func := "github.com/evanw/esbuild/n011_46.FnMaybeSimplifyNotBinaryOpTable", spec := "fnMaybeSimplifyNotBinaryOpTable", recurses := true, apart := false, narrowed := true }
def FnMaybeSimplifyNotBinaryOpTableUptoSaid : Prop := fnMaybeSimplifyNotBinaryOpTableUptoRow.holds Try.pinned (OpenSpec.upto fnMaybeSimplifyNotBinaryOpTableSpec)

end Rows
end Go.Proofs.YtonhekaakddneaaRRR
