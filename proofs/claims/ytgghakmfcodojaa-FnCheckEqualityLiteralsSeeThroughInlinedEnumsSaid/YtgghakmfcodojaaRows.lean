/-
  No cell of these rows narrows 'for every input' (looked for: loops, veiled, ifaces, maps, wideKeys, modest, calm, conditions, laid).
  DERIVED. THE GIVEN ROWS OF THIS SEAT. 4 by the template 'for every input the law returns true; each argument reads behind the call as it read before'; 0 by the template 'total and deterministic' (their statements: YtgghakmfcodojaaTotals.lean).
  GIVEN WITH THE SEED: the statements are not yours to turn. If you find one false, say at which input.
  Laid BY PROGRAM, IN A SANDBOX (cutbox-rows.mjs): the forced cells as the released guide's own fill.sh prints them over the translation 1a601123f04fa569… (all of the seat's roots in one cut). By AI agents, Wed Nov 11 2026. No macro, syntax, notation, axiom, sorry.
-/
import Derived.Test.YtgghakmfcodojaaChecked
import GoSem.Claim
import GoSem.ClaimJoined
import GoSem.ClaimMapViews
import Derived.JoinedTies
import Derived.KernelRfl
namespace Go.Proofs.Ytgghakmfcodojaa
/- THE CELL 'sum', in the pinned program and in every row, IS THE sha256 OF THE DUMP (.gsa) THAT YtgghakmfcodojaaProg.lean LOADS. Nothing in Lean hashes anything: it is a label: what it is worth is what the hold of that sum in a sandbox is worth. -/
noncomputable def Try.pinned : Pinned := { name := "ytgghakmfcodojaa", sum := "1a601123f04fa5693705666a1bbdde5cc57afa6c83e38fed73de9038ccc7841b", checked := Try.checked }
namespace Rows
def none {H : Type} : Left H := { results := [], args := [] }

/-- 'n011_224.FnDuplicateCaseEqualsDot': WHATEVER THE INPUT: true; the input reads as it did. -/
def fnDuplicateCaseEqualsDotSpec : ChangeSpec := { name := "fnDuplicateCaseEqualsDot", fn := fun _ => fun
  | [d1, d2, d3, d4, d5, d6, d7, d8, d9, d10, d11, d12] => { results := [.lit (.bool true)], args := [d1, d2, d3, d4, d5, d6, d7, d8, d9, d10, d11, d12] }
  | _ => none }
def fnDuplicateCaseEqualsDotRow : OpenClaim := { program := "ytgghakmfcodojaa", sum := "1a601123f04fa5693705666a1bbdde5cc57afa6c83e38fed73de9038ccc7841b", func := "github.com/evanw/esbuild/n011_224.FnDuplicateCaseEqualsDot", spec := "fnDuplicateCaseEqualsDot", recurses := true, apart := false }
def FnDuplicateCaseEqualsDotSaid : Prop := fnDuplicateCaseEqualsDotRow.holds Try.pinned (OpenSpec.ofChange fnDuplicateCaseEqualsDotSpec)

/-- ITS FALSE NEIGHBOUR: 'it returns false'. Refute it at one input. -/
def fnDuplicateCaseEqualsDotWrong : ChangeSpec := { name := "fnDuplicateCaseEqualsDot", fn := fun _ => fun
  | [d1, d2, d3, d4, d5, d6, d7, d8, d9, d10, d11, d12] => { results := [.lit (.bool false)], args := [d1, d2, d3, d4, d5, d6, d7, d8, d9, d10, d11, d12] }
  | _ => none }
def FnDuplicateCaseEqualsDotWrongFalsely : Prop := fnDuplicateCaseEqualsDotRow.holds Try.pinned (OpenSpec.ofChange fnDuplicateCaseEqualsDotWrong)

/-- 'n011_224.FnDuplicateCaseEqualsIndex': WHATEVER THE INPUT: true; the input reads as it did. -/
def fnDuplicateCaseEqualsIndexSpec : ChangeSpec := { name := "fnDuplicateCaseEqualsIndex", fn := fun _ => fun
  | [d1, d2, d3, d4, d5, d6, d7, d8, d9, d10, d11, d12] => { results := [.lit (.bool true)], args := [d1, d2, d3, d4, d5, d6, d7, d8, d9, d10, d11, d12] }
  | _ => none }
def fnDuplicateCaseEqualsIndexRow : OpenClaim := { program := "ytgghakmfcodojaa", sum := "1a601123f04fa5693705666a1bbdde5cc57afa6c83e38fed73de9038ccc7841b", func := "github.com/evanw/esbuild/n011_224.FnDuplicateCaseEqualsIndex", spec := "fnDuplicateCaseEqualsIndex", recurses := true, apart := false }
def FnDuplicateCaseEqualsIndexSaid : Prop := fnDuplicateCaseEqualsIndexRow.holds Try.pinned (OpenSpec.ofChange fnDuplicateCaseEqualsIndexSpec)

/-- ITS FALSE NEIGHBOUR: 'it returns false'. Refute it at one input. -/
def fnDuplicateCaseEqualsIndexWrong : ChangeSpec := { name := "fnDuplicateCaseEqualsIndex", fn := fun _ => fun
  | [d1, d2, d3, d4, d5, d6, d7, d8, d9, d10, d11, d12] => { results := [.lit (.bool false)], args := [d1, d2, d3, d4, d5, d6, d7, d8, d9, d10, d11, d12] }
  | _ => none }
def FnDuplicateCaseEqualsIndexWrongFalsely : Prop := fnDuplicateCaseEqualsIndexRow.holds Try.pinned (OpenSpec.ofChange fnDuplicateCaseEqualsIndexWrong)

/-- 'n011_90.FnCheckEqualityLiteralsSymmetric': WHATEVER THE INPUT: true; the input reads as it did. -/
def fnCheckEqualityLiteralsSymmetricSpec : ChangeSpec := { name := "fnCheckEqualityLiteralsSymmetric", fn := fun _ => fun
  | [d1, d2, d3, d4, d5, d6, d7, d8, d9, d10, d11] => { results := [.lit (.bool true)], args := [d1, d2, d3, d4, d5, d6, d7, d8, d9, d10, d11] }
  | _ => none }
def fnCheckEqualityLiteralsSymmetricRow : OpenClaim := { program := "ytgghakmfcodojaa", sum := "1a601123f04fa5693705666a1bbdde5cc57afa6c83e38fed73de9038ccc7841b", func := "github.com/evanw/esbuild/n011_90.FnCheckEqualityLiteralsSymmetric", spec := "fnCheckEqualityLiteralsSymmetric", recurses := true, apart := false }
def FnCheckEqualityLiteralsSymmetricSaid : Prop := fnCheckEqualityLiteralsSymmetricRow.holds Try.pinned (OpenSpec.ofChange fnCheckEqualityLiteralsSymmetricSpec)

/-- ITS FALSE NEIGHBOUR: 'it returns false'. Refute it at one input. -/
def fnCheckEqualityLiteralsSymmetricWrong : ChangeSpec := { name := "fnCheckEqualityLiteralsSymmetric", fn := fun _ => fun
  | [d1, d2, d3, d4, d5, d6, d7, d8, d9, d10, d11] => { results := [.lit (.bool false)], args := [d1, d2, d3, d4, d5, d6, d7, d8, d9, d10, d11] }
  | _ => none }
def FnCheckEqualityLiteralsSymmetricWrongFalsely : Prop := fnCheckEqualityLiteralsSymmetricRow.holds Try.pinned (OpenSpec.ofChange fnCheckEqualityLiteralsSymmetricWrong)

/-- 'n011_90.FnCheckEqualityLiteralsSeeThroughInlinedEnums': WHATEVER THE INPUT: true; the input reads as it did. -/
def fnCheckEqualityLiteralsSeeThroughInlinedEnumsSpec : ChangeSpec := { name := "fnCheckEqualityLiteralsSeeThroughInlinedEnums", fn := fun _ => fun
  | [d1, d2, d3, d4, d5, d6, d7, d8, d9, d10, d11, d12] => { results := [.lit (.bool true)], args := [d1, d2, d3, d4, d5, d6, d7, d8, d9, d10, d11, d12] }
  | _ => none }
def fnCheckEqualityLiteralsSeeThroughInlinedEnumsRow : OpenClaim := { program := "ytgghakmfcodojaa", sum := "1a601123f04fa5693705666a1bbdde5cc57afa6c83e38fed73de9038ccc7841b", func := "github.com/evanw/esbuild/n011_90.FnCheckEqualityLiteralsSeeThroughInlinedEnums", spec := "fnCheckEqualityLiteralsSeeThroughInlinedEnums", recurses := true, apart := false }
def FnCheckEqualityLiteralsSeeThroughInlinedEnumsSaid : Prop := fnCheckEqualityLiteralsSeeThroughInlinedEnumsRow.holds Try.pinned (OpenSpec.ofChange fnCheckEqualityLiteralsSeeThroughInlinedEnumsSpec)

/-- ITS FALSE NEIGHBOUR: 'it returns false'. Refute it at one input. -/
def fnCheckEqualityLiteralsSeeThroughInlinedEnumsWrong : ChangeSpec := { name := "fnCheckEqualityLiteralsSeeThroughInlinedEnums", fn := fun _ => fun
  | [d1, d2, d3, d4, d5, d6, d7, d8, d9, d10, d11, d12] => { results := [.lit (.bool false)], args := [d1, d2, d3, d4, d5, d6, d7, d8, d9, d10, d11, d12] }
  | _ => none }
def FnCheckEqualityLiteralsSeeThroughInlinedEnumsWrongFalsely : Prop := fnCheckEqualityLiteralsSeeThroughInlinedEnumsRow.holds Try.pinned (OpenSpec.ofChange fnCheckEqualityLiteralsSeeThroughInlinedEnumsWrong)

/- THE SECOND FORM. 'bulk': how many values and letters a reading holds, each counted each time it is reached (what is shared counts as often as it is met; a slice's spare places count too). A statement '..UptoSaid' is the law's where the arguments, and the package variables that the reading takes, are together of bulk at most 1048576: NARROWER than '..Said'. Prove '..Said' where nothing that the law and all that it calls make is longer than what came in: it says more and counts as full. Else prove '..UptoSaid'. A law counts once. -/
mutual
def uptoBulk {H : Type} : DataW H → Nat
  | .lit (.string bytes) => bytes.length + 1
  | .lit _ => 1
  | .nil => 1
  | .ptr d => uptoBulk d + 1
  | .slice elems spare => uptoBulkAll elems + uptoBulkAll spare + 1
  | .agg parts => uptoBulkAll parts + 1
  | .iface _ d => uptoBulk d + 1
  | .map entries => uptoBulkEntries entries + 1
  | .held _ => 1
def uptoBulkAll {H : Type} : List (DataW H) → Nat
  | [] => 0
  | d :: r => uptoBulk d + uptoBulkAll r
def uptoBulkEntries {H : Type} : List (Lit × DataW H) → Nat
  | [] => 0
  | x :: r => uptoBulkEntry x + uptoBulkEntries r
def uptoBulkEntry {H : Type} : Lit × DataW H → Nat
  | (.string bytes, d) => bytes.length + uptoBulk d + 1
  | (_, d) => uptoBulk d + 1
 end
def uptoSmall : (H : Type) → List (DataW H) → Bool := fun _ ds => decide (uptoBulkAll ds ≤ 1048576)
def OpenSpec.upto (s : _root_.Go.ChangeSpec) : _root_.Go.OpenSpec := { _root_.Go.OpenSpec.ofChange s with cond := some uptoSmall }

/-- 'n011_224.FnDuplicateCaseEqualsDot', WHERE WHAT IT READS IS OF BULK AT MOST 1048576: true; the input reads as it did. -/
def fnDuplicateCaseEqualsDotUptoRow : OpenClaim := { program := "ytgghakmfcodojaa", sum := "1a601123f04fa5693705666a1bbdde5cc57afa6c83e38fed73de9038ccc7841b", func := "github.com/evanw/esbuild/n011_224.FnDuplicateCaseEqualsDot", spec := "fnDuplicateCaseEqualsDot", recurses := true, apart := false, narrowed := true }
def FnDuplicateCaseEqualsDotUptoSaid : Prop := fnDuplicateCaseEqualsDotUptoRow.holds Try.pinned (OpenSpec.upto fnDuplicateCaseEqualsDotSpec)

/-- 'n011_224.FnDuplicateCaseEqualsIndex', WHERE WHAT IT READS IS OF BULK AT MOST 1048576: true; the input reads as it did. -/
def fnDuplicateCaseEqualsIndexUptoRow : OpenClaim := { program := "ytgghakmfcodojaa", sum := "1a601123f04fa5693705666a1bbdde5cc57afa6c83e38fed73de9038ccc7841b", func := "github.com/evanw/esbuild/n011_224.FnDuplicateCaseEqualsIndex", spec := "fnDuplicateCaseEqualsIndex", recurses := true, apart := false, narrowed := true }
def FnDuplicateCaseEqualsIndexUptoSaid : Prop := fnDuplicateCaseEqualsIndexUptoRow.holds Try.pinned (OpenSpec.upto fnDuplicateCaseEqualsIndexSpec)

/-- 'n011_90.FnCheckEqualityLiteralsSymmetric', WHERE WHAT IT READS IS OF BULK AT MOST 1048576: true; the input reads as it did. -/
def fnCheckEqualityLiteralsSymmetricUptoRow : OpenClaim := { program := "ytgghakmfcodojaa", sum := "1a601123f04fa5693705666a1bbdde5cc57afa6c83e38fed73de9038ccc7841b", func := "github.com/evanw/esbuild/n011_90.FnCheckEqualityLiteralsSymmetric", spec := "fnCheckEqualityLiteralsSymmetric", recurses := true, apart := false, narrowed := true }
def FnCheckEqualityLiteralsSymmetricUptoSaid : Prop := fnCheckEqualityLiteralsSymmetricUptoRow.holds Try.pinned (OpenSpec.upto fnCheckEqualityLiteralsSymmetricSpec)

/-- 'n011_90.FnCheckEqualityLiteralsSeeThroughInlinedEnums', WHERE WHAT IT READS IS OF BULK AT MOST 1048576: true; the input reads as it did. -/
def fnCheckEqualityLiteralsSeeThroughInlinedEnumsUptoRow : OpenClaim := { program := "ytgghakmfcodojaa", sum := "1a601123f04fa5693705666a1bbdde5cc57afa6c83e38fed73de9038ccc7841b", func := "github.com/evanw/esbuild/n011_90.FnCheckEqualityLiteralsSeeThroughInlinedEnums", spec := "fnCheckEqualityLiteralsSeeThroughInlinedEnums", recurses := true, apart := false, narrowed := true }
def FnCheckEqualityLiteralsSeeThroughInlinedEnumsUptoSaid : Prop := fnCheckEqualityLiteralsSeeThroughInlinedEnumsUptoRow.holds Try.pinned (OpenSpec.upto fnCheckEqualityLiteralsSeeThroughInlinedEnumsSpec)

end Rows
end Go.Proofs.Ytgghakmfcodojaa
