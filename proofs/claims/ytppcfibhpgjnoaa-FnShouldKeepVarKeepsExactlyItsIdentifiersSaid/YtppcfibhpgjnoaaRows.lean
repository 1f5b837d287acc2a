/-
  No cell of these rows narrows 'for every input' (looked for: loops, veiled, ifaces, maps, wideKeys, modest, calm, conditions, laid).
  DERIVED. THE GIVEN ROWS OF THIS SEAT. 4 by the template 'for every input the law returns true; each argument reads behind the call as it read before'; 0 by the template 'total and deterministic' (their statements: YtppcfibhpgjnoaaTotals.lean).
  GIVEN WITH THE SEED: the statements are not yours to turn. If you find one false, say at which input.
  Laid BY PROGRAM, IN A SANDBOX (cutbox-rows.mjs): the forced cells as the released guide's own fill.sh prints them over the translation 9b78dced8bd717a5… (all of the seat's roots in one cut). By AI agents, Wed Nov 11 2026. No macro, syntax, notation, axiom, sorry.
-/
import Derived.Test.YtppcfibhpgjnoaaChecked
import GoSem.Claim
import GoSem.ClaimJoined
import GoSem.ClaimMapViews
import Derived.JoinedTies
import Derived.KernelRfl
namespace Go.Proofs.Ytppcfibhpgjnoaa
/- THE CELL 'sum', in the pinned program and in every row, IS THE sha256 OF THE DUMP (.gsa) THAT YtppcfibhpgjnoaaProg.lean LOADS. Nothing in Lean hashes anything: it is a label: what it is worth is what the hold of that sum in a sandbox is worth. -/
noncomputable def Try.pinned : Pinned := { name := "ytppcfibhpgjnoaa", sum := "9b78dced8bd717a5d4646ab542d2f39c732f64790f9b1ea74e96790f154a2509", checked := Try.checked }
namespace Rows
def none {H : Type} : Left H := { results := [], args := [] }

/-- 'n011_181.FnShouldKeepStmtInDeadControlFlowMatchesHoistModel': WHATEVER THE INPUT: true; the input reads as it did. -/
def fnShouldKeepStmtInDeadControlFlowMatchesHoistModelSpec : ChangeSpec := { name := "fnShouldKeepStmtInDeadControlFlowMatchesHoistModel", fn := fun _ => fun
  | [d] => { results := [.lit (.bool true)], args := [d] }
  | _ => none }
def fnShouldKeepStmtInDeadControlFlowMatchesHoistModelRow : OpenClaim := { program := "ytppcfibhpgjnoaa", sum := "9b78dced8bd717a5d4646ab542d2f39c732f64790f9b1ea74e96790f154a2509", func := "github.com/evanw/esbuild/n011_181.FnShouldKeepStmtInDeadControlFlowMatchesHoistModel", spec := "fnShouldKeepStmtInDeadControlFlowMatchesHoistModel", recurses := true, apart := false }
def FnShouldKeepStmtInDeadControlFlowMatchesHoistModelSaid : Prop := fnShouldKeepStmtInDeadControlFlowMatchesHoistModelRow.holds Try.pinned (OpenSpec.ofChange fnShouldKeepStmtInDeadControlFlowMatchesHoistModelSpec)

/-- ITS FALSE NEIGHBOUR: 'it returns false'. Refute it at one input. -/
def fnShouldKeepStmtInDeadControlFlowMatchesHoistModelWrong : ChangeSpec := { name := "fnShouldKeepStmtInDeadControlFlowMatchesHoistModel", fn := fun _ => fun
  | [d] => { results := [.lit (.bool false)], args := [d] }
  | _ => none }
def FnShouldKeepStmtInDeadControlFlowMatchesHoistModelWrongFalsely : Prop := fnShouldKeepStmtInDeadControlFlowMatchesHoistModelRow.holds Try.pinned (OpenSpec.ofChange fnShouldKeepStmtInDeadControlFlowMatchesHoistModelWrong)

/-- 'n011_119.FnShouldKeepStmtsExactlyWhenHoistedDeclRemains': WHATEVER THE INPUT: true; the input reads as it did. -/
def fnShouldKeepStmtsExactlyWhenHoistedDeclRemainsSpec : ChangeSpec := { name := "fnShouldKeepStmtsExactlyWhenHoistedDeclRemains", fn := fun _ => fun
  | [d] => { results := [.lit (.bool true)], args := [d] }
  | _ => none }
def fnShouldKeepStmtsExactlyWhenHoistedDeclRemainsRow : OpenClaim := { program := "ytppcfibhpgjnoaa", sum := "9b78dced8bd717a5d4646ab542d2f39c732f64790f9b1ea74e96790f154a2509", func := "github.com/evanw/esbuild/n011_119.FnShouldKeepStmtsExactlyWhenHoistedDeclRemains", spec := "fnShouldKeepStmtsExactlyWhenHoistedDeclRemains", recurses := true, apart := false }
def FnShouldKeepStmtsExactlyWhenHoistedDeclRemainsSaid : Prop := fnShouldKeepStmtsExactlyWhenHoistedDeclRemainsRow.holds Try.pinned (OpenSpec.ofChange fnShouldKeepStmtsExactlyWhenHoistedDeclRemainsSpec)

/-- ITS FALSE NEIGHBOUR: 'it returns false'. Refute it at one input. -/
def fnShouldKeepStmtsExactlyWhenHoistedDeclRemainsWrong : ChangeSpec := { name := "fnShouldKeepStmtsExactlyWhenHoistedDeclRemains", fn := fun _ => fun
  | [d] => { results := [.lit (.bool false)], args := [d] }
  | _ => none }
def FnShouldKeepStmtsExactlyWhenHoistedDeclRemainsWrongFalsely : Prop := fnShouldKeepStmtsExactlyWhenHoistedDeclRemainsRow.holds Try.pinned (OpenSpec.ofChange fnShouldKeepStmtsExactlyWhenHoistedDeclRemainsWrong)

/-- 'n011_119.FnFindIdentifiersComposesOverSiblings': WHATEVER THE INPUT: true; the input reads as it did. -/
def fnFindIdentifiersComposesOverSiblingsSpec : ChangeSpec := { name := "fnFindIdentifiersComposesOverSiblings", fn := fun _ => fun
  | [d1, d2] => { results := [.lit (.bool true)], args := [d1, d2] }
  | _ => none }
def fnFindIdentifiersComposesOverSiblingsRow : OpenClaim := { program := "ytppcfibhpgjnoaa", sum := "9b78dced8bd717a5d4646ab542d2f39c732f64790f9b1ea74e96790f154a2509", func := "github.com/evanw/esbuild/n011_119.FnFindIdentifiersComposesOverSiblings", spec := "fnFindIdentifiersComposesOverSiblings", recurses := true, apart := false }
def FnFindIdentifiersComposesOverSiblingsSaid : Prop := fnFindIdentifiersComposesOverSiblingsRow.holds Try.pinned (OpenSpec.ofChange fnFindIdentifiersComposesOverSiblingsSpec)

/-- ITS FALSE NEIGHBOUR: 'it returns false'. Refute it at one input. -/
def fnFindIdentifiersComposesOverSiblingsWrong : ChangeSpec := { name := "fnFindIdentifiersComposesOverSiblings", fn := fun _ => fun
  | [d1, d2] => { results := [.lit (.bool false)], args := [d1, d2] }
  | _ => none }
def FnFindIdentifiersComposesOverSiblingsWrongFalsely : Prop := fnFindIdentifiersComposesOverSiblingsRow.holds Try.pinned (OpenSpec.ofChange fnFindIdentifiersComposesOverSiblingsWrong)

/-- 'n011_181.FnShouldKeepVarKeepsExactlyItsIdentifiers': WHATEVER THE INPUT: true; the input reads as it did. -/
def fnShouldKeepVarKeepsExactlyItsIdentifiersSpec : ChangeSpec := { name := "fnShouldKeepVarKeepsExactlyItsIdentifiers", fn := fun _ => fun
  | [d1, d2] => { results := [.lit (.bool true)], args := [d1, d2] }
  | _ => none }
def fnShouldKeepVarKeepsExactlyItsIdentifiersRow : OpenClaim := { program := "ytppcfibhpgjnoaa", sum := "9b78dced8bd717a5d4646ab542d2f39c732f64790f9b1ea74e96790f154a2509", func := "github.com/evanw/esbuild/n011_181.FnShouldKeepVarKeepsExactlyItsIdentifiers", spec := "fnShouldKeepVarKeepsExactlyItsIdentifiers", recurses := true, apart := false }
def FnShouldKeepVarKeepsExactlyItsIdentifiersSaid : Prop := fnShouldKeepVarKeepsExactlyItsIdentifiersRow.holds Try.pinned (OpenSpec.ofChange fnShouldKeepVarKeepsExactlyItsIdentifiersSpec)

/-- ITS FALSE NEIGHBOUR: 'it returns false'. Refute it at one input. -/
def fnShouldKeepVarKeepsExactlyItsIdentifiersWrong : ChangeSpec := { name := "fnShouldKeepVarKeepsExactlyItsIdentifiers", fn := fun _ => fun
  | [d1, d2] => { results := [.lit (.bool false)], args := [d1, d2] }
  | _ => none }
def FnShouldKeepVarKeepsExactlyItsIdentifiersWrongFalsely : Prop := fnShouldKeepVarKeepsExactlyItsIdentifiersRow.holds Try.pinned (OpenSpec.ofChange fnShouldKeepVarKeepsExactlyItsIdentifiersWrong)

/- THE SECOND FORM. 'bulk': how many values and letters a reading holds, each counted each time it is reached (what is shared counts as often as it is met; a slice's spare places count too). A statement '..UptoSaid' is the law's where the arguments, and the package variables that the reading takes, are together of bulk at most 1048576: NARROWER than '..Said'. Prove '..Said' where nothing that the law and all that it calls make is longer than what came in: it says more and counts as full. Else prove '..UptoSaid'. A law counts once. -/
mutual
def uptoBulk {H : Type} : DataW H → Nat
  | .lit (.string bytes) => bytes.length + 1
  | .lit _ => 1
  | .nil => 1
  | .ptr d => uptoBulk d + 1
  | .slice elems spare => uptoBulkAll elems + uptoBulkAll spare + 1
  | .agg parts => uptoBulkAll parts + 1
  | .iface _ d => uptoBulk d + 1
  | .map entries => uptoBulkEntries entries + 1
  | .held _ => 1
def uptoBulkAll {H : Type} : List (DataW H) → Nat
  | [] => 0
  | d :: r => uptoBulk d + uptoBulkAll r
def uptoBulkEntries {H : Type} : List (Lit × DataW H) → Nat
  | [] => 0
  | x :: r => uptoBulkEntry x + uptoBulkEntries r
def uptoBulkEntry {H : Type} : Lit × DataW H → Nat
  | (.string bytes, d) => bytes.length + uptoBulk d + 1
  | (_, d) => uptoBulk d + 1
 end
def uptoSmall : (H : Type) → List (DataW H) → Bool := fun _ ds => decide (uptoBulkAll ds ≤ 1048576)
def OpenSpec.upto (s : _root_.Go.ChangeSpec) : _root_.Go.OpenSpec := { _root_.Go.OpenSpec.ofChange s with cond := some uptoSmall }

/-- 'n011_181.FnShouldKeepStmtInDeadControlFlowMatchesHoistModel', WHERE WHAT IT READS IS OF BULK AT MOST 1048576: true; the input reads as it did. -/
def fnShouldKeepStmtInDeadControlFlowMatchesHoistModelUptoRow : OpenClaim := { program := "ytppcfibhpgjnoaa", sum := "9b78dced8bd717a5d4646ab542d2f39c732f64790f9b1ea74e96790f154a2509", func := "github.com/evanw/esbuild/n011_181.FnShouldKeepStmtInDeadControlFlowMatchesHoistModel", spec := "fnShouldKeepStmtInDeadControlFlowMatchesHoistModel", recurses := true, apart := false, narrowed := true }
def FnShouldKeepStmtInDeadControlFlowMatchesHoistModelUptoSaid : Prop := fnShouldKeepStmtInDeadControlFlowMatchesHoistModelUptoRow.holds Try.pinned (OpenSpec.upto fnShouldKeepStmtInDeadControlFlowMatchesHoistModelSpec)

/-- 'n011_119.FnShouldKeepStmtsExactlyWhenHoistedDeclRemains', WHERE WHAT IT READS IS OF BULK AT MOST 1048576: true; the input reads as it did. -/
def fnShouldKeepStmtsExactlyWhenHoistedDeclRemainsUptoRow : OpenClaim := { program := "ytppcfibhpgjnoaa", sum := "9b78dced8bd717a5d4646ab542d2f39c732f64790f9b1ea74e96790f154a2509", func := "github.com/evanw/esbuild/n011_119.FnShouldKeepStmtsExactlyWhenHoistedDeclRemains", spec := "fnShouldKeepStmtsExactlyWhenHoistedDeclRemains", recurses := true, apart := false, narrowed := true }
def FnShouldKeepStmtsExactlyWhenHoistedDeclRemainsUptoSaid : Prop := fnShouldKeepStmtsExactlyWhenHoistedDeclRemainsUptoRow.holds Try.pinned (OpenSpec.upto fnShouldKeepStmtsExactlyWhenHoistedDeclRemainsSpec)

/-- 'n011_119.FnFindIdentifiersComposesOverSiblings', WHERE WHAT IT READS IS OF BULK AT MOST 1048576: true; the input reads as it did. -/
def fnFindIdentifiersComposesOverSiblingsUptoRow : OpenClaim := { program := "ytppcfibhpgjnoaa", sum := "9b78dced8bd717a5d4646ab542d2f39c732f64790f9b1ea74e96790f154a2509", func := "github.com/evanw/esbuild/n011_119.FnFindIdentifiersComposesOverSiblings", spec := "fnFindIdentifiersComposesOverSiblings", recurses := true, apart := false, narrowed := true }
def FnFindIdentifiersComposesOverSiblingsUptoSaid : Prop := fnFindIdentifiersComposesOverSiblingsUptoRow.holds Try.pinned (OpenSpec.upto fnFindIdentifiersComposesOverSiblingsSpec)

/-- 'n011_181.FnShouldKeepVarKeepsExactlyItsIdentifiers', WHERE WHAT IT READS IS OF BULK AT MOST 1048576: true; the input reads as it did. -/
def fnShouldKeepVarKeepsExactlyItsIdentifiersUptoRow : OpenClaim := { program := "ytppcfibhpgjnoaa", sum := "9b78dced8bd717a5d4646ab542d2f39c732f64790f9b1ea74e96790f154a2509", func := "github.com/evanw/esbuild/n011_181.FnShouldKeepVarKeepsExactlyItsIdentifiers", spec := "fnShouldKeepVarKeepsExactlyItsIdentifiers", recurses := true, apart := false, narrowed := true }
def FnShouldKeepVarKeepsExactlyItsIdentifiersUptoSaid : Prop := fnShouldKeepVarKeepsExactlyItsIdentifiersUptoRow.holds Try.pinned (OpenSpec.upto fnShouldKeepVarKeepsExactlyItsIdentifiersSpec)

end Rows
end Go.Proofs.Ytppcfibhpgjnoaa
