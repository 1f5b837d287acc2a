/-
  NARROWER THAN 'FOR EVERY INPUT', by the rows' own cells (each row's printed sentence says how): FnAnalyzeMethodTable: laid · FnScanStmtsExact: laid.
  DERIVED. THE GIVEN ROWS OF THIS SEAT. 2 by the template 'for every input the law returns true; each argument reads behind the call as it read before'; 0 by the template 'total and deterministic' (their statements: YtjnffbnipjkibaaDoorTotals.lean).
  GIVEN WITH THE SEED: the statements are not yours to turn. If you find one false, say at which input.
  Laid BY PROGRAM, IN A SANDBOX (cutbox-rows.mjs): the forced cells as the released guide's own fill.sh prints them over the translation eb63cdcb4942c0f0… (all of the seat's roots in one cut). By AI agents, Wed Nov 11 2026. No macro, syntax, notation, axiom, sorry.
-/
import Derived.Test.YtjnffbnipjkibaaDoorChecked
import GoSem.Claim
import GoSem.ClaimJoined
import GoSem.ClaimMapViews
import Derived.JoinedTies
import Derived.KernelRfl
namespace Go.Proofs.YtjnffbnipjkibaaDoor
/- THE CELL 'sum', in the pinned program and in every row, IS THE sha256 OF THE DUMP (.gsa) THAT YtjnffbnipjkibaaDoorProg.lean LOADS. Nothing in Lean hashes anything: it is a label: what it is worth is what the hold of that sum in a sandbox is worth. -/
noncomputable def Tryd.pinned : Pinned := { name := "ytjnffbnipjkibaadoor", sum := "eb63cdcb4942c0f0b3ef7e5b6346db90276667b1352b54d03cebdf7b8b49dcff", checked := Tryd.checked }
namespace Rows
def none {H : Type} : Left H := { results := [], args := [] }

/- WHAT THE LISTED PACKAGE-LEVEL VARIABLES READ AS WHEN THE CALL BEGINS. Each datum BY PROGRAM (the guide's laid-datum.mjs) off the statement by which the dump's own 'gosem.cut.vars' lays the variable. In a bare row this is a premise. The card (YtjnffbnipjkibaaDoorCards.lean) ties it to the program's text. -/
def laid_github_com_evanw_esbuild_internal_ast_InvalidRef {H : Type} : DataW H := .agg [.lit (.int .u32 4294967295), .lit (.int .u32 4294967295)]

/-- 'n011_248.FnAnalyzeMethodTable': WHATEVER THE INPUT: true; the input reads as it did. -/
def fnAnalyzeMethodTableSpec : ChangeSpec := { name := "fnAnalyzeMethodTable", vars := ["github.com/evanw/esbuild/internal/ast.InvalidRef"], fn := fun _ => fun
  | [d1, d2, d3, d4, d5, d6, d7, d8, d9, d10, d11, d12, g1] => { results := [.lit (.bool true)], args := [d1, d2, d3, d4, d5, d6, d7, d8, d9, d10, d11, d12], vars := [g1] }
  | _ => none }
def fnAnalyzeMethodTableRow : OpenClaim := { program := "ytjnffbnipjkibaadoor", sum := "eb63cdcb4942c0f0b3ef7e5b6346db90276667b1352b54d03cebdf7b8b49dcff", func := "github.com/evanw/esbuild/n011_248.FnAnalyzeMethodTable", spec := "fnAnalyzeMethodTable", named := ["github.com/evanw/esbuild/internal/ast.InvalidRef"], plainKeys := false, apart := false, laid := [("github.com/evanw/esbuild/internal/ast.InvalidRef", laid_github_com_evanw_esbuild_internal_ast_InvalidRef)] }
def FnAnalyzeMethodTableSaid : Prop := fnAnalyzeMethodTableRow.holds Tryd.pinned (OpenSpec.ofChange fnAnalyzeMethodTableSpec)

/-- ITS FALSE NEIGHBOUR: 'it returns false'. Refute it at one input. -/
def fnAnalyzeMethodTableWrong : ChangeSpec := { name := "fnAnalyzeMethodTable", vars := ["github.com/evanw/esbuild/internal/ast.InvalidRef"], fn := fun _ => fun
  | [d1, d2, d3, d4, d5, d6, d7, d8, d9, d10, d11, d12, g1] => { results := [.lit (.bool false)], args := [d1, d2, d3, d4, d5, d6, d7, d8, d9, d10, d11, d12], vars := [g1] }
  | _ => none }
def FnAnalyzeMethodTableWrongFalsely : Prop := fnAnalyzeMethodTableRow.holds Tryd.pinned (OpenSpec.ofChange fnAnalyzeMethodTableWrong)

/-- 'n011_263.FnScanStmtsExact': WHATEVER THE INPUT: true; the input reads as it did. -/
def fnScanStmtsExactSpec : ChangeSpec := { name := "fnScanStmtsExact", vars := ["github.com/evanw/esbuild/internal/ast.InvalidRef"], fn := fun _ => fun
  | [d1, d2, d3, d4, d5, d6, d7, g1] => { results := [.lit (.bool true)], args := [d1, d2, d3, d4, d5, d6, d7], vars := [g1] }
  | _ => none }
def fnScanStmtsExactRow : OpenClaim := { program := "ytjnffbnipjkibaadoor", sum := "eb63cdcb4942c0f0b3ef7e5b6346db90276667b1352b54d03cebdf7b8b49dcff", func := "github.com/evanw/esbuild/n011_263.FnScanStmtsExact", spec := "fnScanStmtsExact", named := ["github.com/evanw/esbuild/internal/ast.InvalidRef"], plainKeys := false, apart := false, laid := [("github.com/evanw/esbuild/internal/ast.InvalidRef", laid_github_com_evanw_esbuild_internal_ast_InvalidRef)] }
def FnScanStmtsExactSaid : Prop := fnScanStmtsExactRow.holds Tryd.pinned (OpenSpec.ofChange fnScanStmtsExactSpec)

/-- ITS FALSE NEIGHBOUR: 'it returns false'. Refute it at one input. -/
def fnScanStmtsExactWrong : ChangeSpec := { name := "fnScanStmtsExact", vars := ["github.com/evanw/esbuild/internal/ast.InvalidRef"], fn := fun _ => fun
  | [d1, d2, d3, d4, d5, d6, d7, g1] => { results := [.lit (.bool false)], args := [d1, d2, d3, d4, d5, d6, d7], vars := [g1] }
  | _ => none }
def FnScanStmtsExactWrongFalsely : Prop := fnScanStmtsExactRow.holds Tryd.pinned (OpenSpec.ofChange fnScanStmtsExactWrong)

/- THE SECOND FORM. 'bulk': how many values and letters a reading holds, each counted each time it is reached (what is shared counts as often as it is met; a slice's spare places count too). A statement '..UptoSaid' is the law's where the arguments, and the package variables that the reading takes, are together of bulk at most 1048576: NARROWER than '..Said'. Prove '..Said' where nothing that the law and all that it calls make is longer than what came in: it says more and counts as full. Else prove '..UptoSaid'. A law counts once. -/
mutual
def uptoBulk {H : Type} : DataW H → Nat
  | .lit (.string bytes) => bytes.length + 1
  | .lit _ => 1
  | .nil => 1
  | .ptr d => uptoBulk d + 1
  | .slice elems spare => uptoBulkAll elems + uptoBulkAll spare + 1
  | .agg parts => uptoBulkAll parts + 1
  | .iface _ d => uptoBulk d + 1
  | .map entries => uptoBulkEntries entries + 1
  | .held _ => 1
def uptoBulkAll {H : Type} : List (DataW H) → Nat
  | [] => 0
  | d :: r => uptoBulk d + uptoBulkAll r
def uptoBulkEntries {H : Type} : List (Lit × DataW H) → Nat
  | [] => 0
  | x :: r => uptoBulkEntry x + uptoBulkEntries r
def uptoBulkEntry {H : Type} : Lit × DataW H → Nat
  | (.string bytes, d) => bytes.length + uptoBulk d + 1
  | (_, d) => uptoBulk d + 1
 end
def uptoSmall : (H : Type) → List (DataW H) → Bool := fun _ ds => decide (uptoBulkAll ds ≤ 1048576)
def OpenSpec.upto (s : _root_.Go.ChangeSpec) : _root_.Go.OpenSpec := { _root_.Go.OpenSpec.ofChange s with cond := some uptoSmall }

/-- 'n011_248.FnAnalyzeMethodTable', WHERE WHAT IT READS IS OF BULK AT MOST 1048576: true; the input reads as it did. -/
def fnAnalyzeMethodTableUptoRow : OpenClaim := { program := "ytjnffbnipjkibaadoor", sum := "eb63cdcb4942c0f0b3ef7e5b6346db90276667b1352b54d03cebdf7b8b49dcff", func := "github.com/evanw/esbuild/n011_248.FnAnalyzeMethodTable", spec := "fnAnalyzeMethodTable", named := ["github.com/evanw/esbuild/internal/ast.InvalidRef"], plainKeys := false, apart := false, laid := [("github.com/evanw/esbuild/internal/ast.InvalidRef", laid_github_com_evanw_esbuild_internal_ast_InvalidRef)], narrowed := true }
def FnAnalyzeMethodTableUptoSaid : Prop := fnAnalyzeMethodTableUptoRow.holds Tryd.pinned (OpenSpec.upto fnAnalyzeMethodTableSpec)

/-- 'n011_263.FnScanStmtsExact', WHERE WHAT IT READS IS OF BULK AT MOST 1048576: true; the input reads as it did. -/
def fnScanStmtsExactUptoRow : OpenClaim := { program := "ytjnffbnipjkibaadoor", sum := "eb63cdcb4942c0f0b3ef7e5b6346db90276667b1352b54d03cebdf7b8b49dcff", func := "github.com/evanw/esbuild/n011_263.FnScanStmtsExact", spec := "fnScanStmtsExact", named := ["github.com/evanw/esbuild/internal/ast.InvalidRef"], plainKeys := false, apart := false, laid := [("github.com/evanw/esbuild/internal/ast.InvalidRef", laid_github_com_evanw_esbuild_internal_ast_InvalidRef)], narrowed := true }
def FnScanStmtsExactUptoSaid : Prop := fnScanStmtsExactUptoRow.holds Tryd.pinned (OpenSpec.upto fnScanStmtsExactSpec)

end Rows
end Go.Proofs.YtjnffbnipjkibaaDoor
