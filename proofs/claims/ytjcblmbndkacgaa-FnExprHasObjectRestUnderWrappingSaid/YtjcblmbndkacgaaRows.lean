/-
  No cell of these rows narrows 'for every input' (looked for: loops, veiled, ifaces, maps, wideKeys, modest, calm, conditions, laid).
  DERIVED. THE GIVEN ROWS OF THIS SEAT. 4 by the template 'for every input the law returns true; each argument reads behind the call as it read before'; 0 by the template 'total and deterministic' (their statements: YtjcblmbndkacgaaTotals.lean).
  GIVEN WITH THE SEED: the statements are not yours to turn. If you find one false, say at which input.
  Laid BY PROGRAM, IN A SANDBOX (cutbox-rows.mjs): the forced cells as the released guide's own fill.sh prints them over the translation 3b10ca3d7537fbbe… (all of the seat's roots in one cut). By AI agents, Wed Nov 11 2026. No macro, syntax, notation, axiom, sorry.
-/
import Derived.Test.YtjcblmbndkacgaaChecked
import GoSem.Claim
import GoSem.ClaimJoined
import GoSem.ClaimMapViews
import Derived.JoinedTies
import Derived.KernelRfl
namespace Go.Proofs.Ytjcblmbndkacgaa
/- THE CELL 'sum', in the pinned program and in every row, IS THE sha256 OF THE DUMP (.gsa) THAT YtjcblmbndkacgaaProg.lean LOADS. Nothing in Lean hashes anything: it is a label: what it is worth is what the hold of that sum in a sandbox is worth. -/
noncomputable def Try.pinned : Pinned := { name := "ytjcblmbndkacgaa", sum := "3b10ca3d7537fbbe9a7cfdbb5e675635e426591b929b9312f322ddafa75a0f4b", checked := Try.checked }
namespace Rows
def none {H : Type} : Left H := { results := [], args := [] }

/-- 'n011_37.FnNotIsAlwaysKnownBoolean': WHATEVER THE INPUT: true; the input reads as it did. -/
def fnNotIsAlwaysKnownBooleanSpec : ChangeSpec := { name := "fnNotIsAlwaysKnownBoolean", fn := fun _ => fun
  | [d] => { results := [.lit (.bool true)], args := [d] }
  | _ => none }
def fnNotIsAlwaysKnownBooleanRow : OpenClaim := { program := "ytjcblmbndkacgaa", sum := "3b10ca3d7537fbbe9a7cfdbb5e675635e426591b929b9312f322ddafa75a0f4b", func := "github.com/evanw/esbuild/n011_37.FnNotIsAlwaysKnownBoolean", spec := "fnNotIsAlwaysKnownBoolean", recurses := true, apart := false }
def FnNotIsAlwaysKnownBooleanSaid : Prop := fnNotIsAlwaysKnownBooleanRow.holds Try.pinned (OpenSpec.ofChange fnNotIsAlwaysKnownBooleanSpec)

/-- ITS FALSE NEIGHBOUR: 'it returns false'. Refute it at one input. -/
def fnNotIsAlwaysKnownBooleanWrong : ChangeSpec := { name := "fnNotIsAlwaysKnownBoolean", fn := fun _ => fun
  | [d] => { results := [.lit (.bool false)], args := [d] }
  | _ => none }
def FnNotIsAlwaysKnownBooleanWrongFalsely : Prop := fnNotIsAlwaysKnownBooleanRow.holds Try.pinned (OpenSpec.ofChange fnNotIsAlwaysKnownBooleanWrong)

/-- 'n011_37.FnMergedCommutesAndIsIdempotent': WHATEVER THE INPUT: true; the input reads as it did. -/
def fnMergedCommutesAndIsIdempotentSpec : ChangeSpec := { name := "fnMergedCommutesAndIsIdempotent", fn := fun _ => fun
  | [d1, d2] => { results := [.lit (.bool true)], args := [d1, d2] }
  | _ => none }
def fnMergedCommutesAndIsIdempotentRow : OpenClaim := { program := "ytjcblmbndkacgaa", sum := "3b10ca3d7537fbbe9a7cfdbb5e675635e426591b929b9312f322ddafa75a0f4b", func := "github.com/evanw/esbuild/n011_37.FnMergedCommutesAndIsIdempotent", spec := "fnMergedCommutesAndIsIdempotent", recurses := true, apart := false }
def FnMergedCommutesAndIsIdempotentSaid : Prop := fnMergedCommutesAndIsIdempotentRow.holds Try.pinned (OpenSpec.ofChange fnMergedCommutesAndIsIdempotentSpec)

/-- ITS FALSE NEIGHBOUR: 'it returns false'. Refute it at one input. -/
def fnMergedCommutesAndIsIdempotentWrong : ChangeSpec := { name := "fnMergedCommutesAndIsIdempotent", fn := fun _ => fun
  | [d1, d2] => { results := [.lit (.bool false)], args := [d1, d2] }
  | _ => none }
def FnMergedCommutesAndIsIdempotentWrongFalsely : Prop := fnMergedCommutesAndIsIdempotentRow.holds Try.pinned (OpenSpec.ofChange fnMergedCommutesAndIsIdempotentWrong)

/-- 'n011_129.FnExprHasObjectRestUnderWrapping': WHATEVER THE INPUT: true; the input reads as it did. -/
def fnExprHasObjectRestUnderWrappingSpec : ChangeSpec := { name := "fnExprHasObjectRestUnderWrapping", fn := fun _ => fun
  | [d1, d2, d3, d4] => { results := [.lit (.bool true)], args := [d1, d2, d3, d4] }
  | _ => none }
def fnExprHasObjectRestUnderWrappingRow : OpenClaim := { program := "ytjcblmbndkacgaa", sum := "3b10ca3d7537fbbe9a7cfdbb5e675635e426591b929b9312f322ddafa75a0f4b", func := "github.com/evanw/esbuild/n011_129.FnExprHasObjectRestUnderWrapping", spec := "fnExprHasObjectRestUnderWrapping", recurses := true, apart := false }
def FnExprHasObjectRestUnderWrappingSaid : Prop := fnExprHasObjectRestUnderWrappingRow.holds Try.pinned (OpenSpec.ofChange fnExprHasObjectRestUnderWrappingSpec)

/-- ITS FALSE NEIGHBOUR: 'it returns false'. Refute it at one input. -/
def fnExprHasObjectRestUnderWrappingWrong : ChangeSpec := { name := "fnExprHasObjectRestUnderWrapping", fn := fun _ => fun
  | [d1, d2, d3, d4] => { results := [.lit (.bool false)], args := [d1, d2, d3, d4] }
  | _ => none }
def FnExprHasObjectRestUnderWrappingWrongFalsely : Prop := fnExprHasObjectRestUnderWrappingRow.holds Try.pinned (OpenSpec.ofChange fnExprHasObjectRestUnderWrappingWrong)

/-- 'n011_249.FnBindingHasObjectRestContextInvariant': WHATEVER THE INPUT: true; the input reads as it did. -/
def fnBindingHasObjectRestContextInvariantSpec : ChangeSpec := { name := "fnBindingHasObjectRestContextInvariant", fn := fun _ => fun
  | [d1, d2, d3, d4] => { results := [.lit (.bool true)], args := [d1, d2, d3, d4] }
  | _ => none }
def fnBindingHasObjectRestContextInvariantRow : OpenClaim := { program := "ytjcblmbndkacgaa", sum := "3b10ca3d7537fbbe9a7cfdbb5e675635e426591b929b9312f322ddafa75a0f4b", func := "github.com/evanw/esbuild/n011_249.FnBindingHasObjectRestContextInvariant", spec := "fnBindingHasObjectRestContextInvariant", recurses := true, apart := false }
def FnBindingHasObjectRestContextInvariantSaid : Prop := fnBindingHasObjectRestContextInvariantRow.holds Try.pinned (OpenSpec.ofChange fnBindingHasObjectRestContextInvariantSpec)

/-- ITS FALSE NEIGHBOUR: 'it returns false'. Refute it at one input. -/
def fnBindingHasObjectRestContextInvariantWrong : ChangeSpec := { name := "fnBindingHasObjectRestContextInvariant", fn := fun _ => fun
  | [d1, d2, d3, d4] => { results := [.lit (.bool false)], args := [d1, d2, d3, d4] }
  | _ => none }
def FnBindingHasObjectRestContextInvariantWrongFalsely : Prop := fnBindingHasObjectRestContextInvariantRow.holds Try.pinned (OpenSpec.ofChange fnBindingHasObjectRestContextInvariantWrong)

/- THE SECOND FORM. 'bulk': how many values and letters a reading holds, each counted each time it is reached (what is shared counts as often as it is met; a slice's spare places count too). A statement '..UptoSaid' is the law's where the arguments, and the package variables that the reading takes, are together of bulk at most 1048576: NARROWER than '..Said'. Prove '..Said' where nothing that the law and all that it calls make is longer than what came in: it says more and counts as full. Else prove '..UptoSaid'. A law counts once. -/
mutual
def uptoBulk {H : Type} : DataW H → Nat
  | .lit (.string bytes) => bytes.length + 1
  | .lit _ => 1
  | .nil => 1
  | .ptr d => uptoBulk d + 1
  | .slice elems spare => uptoBulkAll elems + uptoBulkAll spare + 1
  | .agg parts => uptoBulkAll parts + 1
  | .iface _ d => uptoBulk d + 1
  | .map entries => uptoBulkEntries entries + 1
  | .held _ => 1
def uptoBulkAll {H : Type} : List (DataW H) → Nat
  | [] => 0
  | d :: r => uptoBulk d + uptoBulkAll r
def uptoBulkEntries {H : Type} : List (Lit × DataW H) → Nat
  | [] => 0
  | x :: r => uptoBulkEntry x + uptoBulkEntries r
def uptoBulkEntry {H : Type} : Lit × DataW H → Nat
  | (.string bytes, d) => bytes.length + uptoBulk d + 1
  | (_, d) => uptoBulk d + 1
 end
def uptoSmall : (H : Type) → List (DataW H) → Bool := fun _ ds => decide (uptoBulkAll ds ≤ 1048576)
def OpenSpec.upto (s : _root_.Go.ChangeSpec) : _root_.Go.OpenSpec := { _root_.Go.OpenSpec.ofChange s with cond := some uptoSmall }

/-- 'n011_37.FnNotIsAlwaysKnownBoolean', WHERE WHAT IT READS IS OF BULK AT MOST 1048576: true; the input reads as it did. -/
def fnNotIsAlwaysKnownBooleanUptoRow : OpenClaim := { program := "ytjcblmbndkacgaa", sum := "3b10ca3d7537fbbe9a7cfdbb5e675635e426591b929b9312f322ddafa75a0f4b", func := "github.com/evanw/esbuild/n011_37.FnNotIsAlwaysKnownBoolean", spec := "fnNotIsAlwaysKnownBoolean", recurses := true, apart := false, narrowed := true }
def FnNotIsAlwaysKnownBooleanUptoSaid : Prop := fnNotIsAlwaysKnownBooleanUptoRow.holds Try.pinned (OpenSpec.upto fnNotIsAlwaysKnownBooleanSpec)

/-- 'n011_37.FnMergedCommutesAndIsIdempotent', WHERE WHAT IT READS IS OF BULK AT MOST 1048576: true; the input reads as it did. -/
def fnMergedCommutesAndIsIdempotentUptoRow : OpenClaim := { program := "ytjcblmbndkacgaa", sum := "3b10ca3d7537fbbe9a7cfdbb5e675635e426591b929b9312f322ddafa75a0f4b", func := "github.com/evanw/esbuild/n011_37.FnMergedCommutesAndIsIdempotent", spec := "fnMergedCommutesAndIsIdempotent", recurses := true, apart := false, narrowed := true }
def FnMergedCommutesAndIsIdempotentUptoSaid : Prop := fnMergedCommutesAndIsIdempotentUptoRow.holds Try.pinned (OpenSpec.upto fnMergedCommutesAndIsIdempotentSpec)

/-- 'n011_129.FnExprHasObjectRestUnderWrapping', WHERE WHAT IT READS IS OF BULK AT MOST 1048576: true; the input reads as it did. -/
def fnExprHasObjectRestUnderWrappingUptoRow : OpenClaim := { program := "ytjcblmbndkacgaa", sum := "3b10ca3d7537fbbe9a7cfdbb5e675635e426591b929b9312f322ddafa75a0f4b", func := "github.com/evanw/esbuild/n011_129.FnExprHasObjectRestUnderWrapping", spec := "fnExprHasObjectRestUnderWrapping", recurses := true, apart := false, narrowed := true }
def FnExprHasObjectRestUnderWrappingUptoSaid : Prop := fnExprHasObjectRestUnderWrappingUptoRow.holds Try.pinned (OpenSpec.upto fnExprHasObjectRestUnderWrappingSpec)

/-- 'n011_249.FnBindingHasObjectRestContextInvariant', WHERE WHAT IT READS IS OF BULK AT MOST 1048576: true; the input reads as it did. -/
def fnBindingHasObjectRestContextInvariantUptoRow : OpenClaim := { program := "ytjcblmbndkacgaa", sum := "3b10ca3d7537fbbe9a7cfdbb5e675635e426591b929b9312f322ddafa75a0f4b", func := "github.com/evanw/esbuild/n011_249.FnBindingHasObjectRestContextInvariant", spec := "fnBindingHasObjectRestContextInvariant", recurses := true, apart := false, narrowed := true }
def FnBindingHasObjectRestContextInvariantUptoSaid : Prop := fnBindingHasObjectRestContextInvariantUptoRow.holds Try.pinned (OpenSpec.upto fnBindingHasObjectRestContextInvariantSpec)

end Rows
end Go.Proofs.Ytjcblmbndkacgaa
