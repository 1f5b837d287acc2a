/-
  No cell of these rows narrows 'for every input' (looked for: loops, veiled, ifaces, maps, wideKeys, modest, calm, conditions, laid).
  DERIVED. THE GIVEN ROWS OF THIS SEAT. 4 by the template 'for every input the law returns true; each argument reads behind the call as it read before'; 0 by the template 'total and deterministic' (their statements: YtjnffbnipjkibaaTotals.lean).
  GIVEN WITH THE SEED: the statements are not yours to turn. If you find one false, say at which input.
  Laid BY PROGRAM, IN A SANDBOX (cutbox-rows.mjs): the forced cells as the released guide's own fill.sh prints them over the translation 2b81024e736d7c2f… (all of the seat's roots in one cut). By AI agents, Wed Nov 11 2026. No macro, syntax, notation, axiom, sorry.
-/
import Derived.Test.YtjnffbnipjkibaaChecked
import GoSem.Claim
import GoSem.ClaimJoined
import GoSem.ClaimMapViews
import Derived.JoinedTies
import Derived.KernelRfl
namespace Go.Proofs.Ytjnffbnipjkibaa
/- THE CELL 'sum', in the pinned program and in every row, IS THE sha256 OF THE DUMP (.gsa) THAT YtjnffbnipjkibaaProg.lean LOADS. Nothing in Lean hashes anything: it is a label: what it is worth is what the hold of that sum in a sandbox is worth. -/
noncomputable def Try.pinned : Pinned := { name := "ytjnffbnipjkibaa", sum := "2b81024e736d7c2f1734d19ab84ac7973035a62b7df710dc3b17334829dad942", checked := Try.checked }
namespace Rows
def none {H : Type} : Left H := { results := [], args := [] }

/-- 'n011_107.FnTryToInlineCaseBodyIdempotent': WHATEVER THE INPUT: true; the input reads as it did. -/
def fnTryToInlineCaseBodyIdempotentSpec : ChangeSpec := { name := "fnTryToInlineCaseBodyIdempotent", fn := fun _ => fun
  | [d1, d2] => { results := [.lit (.bool true)], args := [d1, d2] }
  | _ => none }
def fnTryToInlineCaseBodyIdempotentRow : OpenClaim := { program := "ytjnffbnipjkibaa", sum := "2b81024e736d7c2f1734d19ab84ac7973035a62b7df710dc3b17334829dad942", func := "github.com/evanw/esbuild/n011_107.FnTryToInlineCaseBodyIdempotent", spec := "fnTryToInlineCaseBodyIdempotent", recurses := true, apart := false }
def FnTryToInlineCaseBodyIdempotentSaid : Prop := fnTryToInlineCaseBodyIdempotentRow.holds Try.pinned (OpenSpec.ofChange fnTryToInlineCaseBodyIdempotentSpec)

/-- ITS FALSE NEIGHBOUR: 'it returns false'. Refute it at one input. -/
def fnTryToInlineCaseBodyIdempotentWrong : ChangeSpec := { name := "fnTryToInlineCaseBodyIdempotent", fn := fun _ => fun
  | [d1, d2] => { results := [.lit (.bool false)], args := [d1, d2] }
  | _ => none }
def FnTryToInlineCaseBodyIdempotentWrongFalsely : Prop := fnTryToInlineCaseBodyIdempotentRow.holds Try.pinned (OpenSpec.ofChange fnTryToInlineCaseBodyIdempotentWrong)

/-- 'n011_107.FnTryToInlineCaseBodyModel': WHATEVER THE INPUT: true; the input reads as it did. -/
def fnTryToInlineCaseBodyModelSpec : ChangeSpec := { name := "fnTryToInlineCaseBodyModel", fn := fun _ => fun
  | [d1, d2] => { results := [.lit (.bool true)], args := [d1, d2] }
  | _ => none }
def fnTryToInlineCaseBodyModelRow : OpenClaim := { program := "ytjnffbnipjkibaa", sum := "2b81024e736d7c2f1734d19ab84ac7973035a62b7df710dc3b17334829dad942", func := "github.com/evanw/esbuild/n011_107.FnTryToInlineCaseBodyModel", spec := "fnTryToInlineCaseBodyModel", recurses := true, apart := false }
def FnTryToInlineCaseBodyModelSaid : Prop := fnTryToInlineCaseBodyModelRow.holds Try.pinned (OpenSpec.ofChange fnTryToInlineCaseBodyModelSpec)

/-- ITS FALSE NEIGHBOUR: 'it returns false'. Refute it at one input. -/
def fnTryToInlineCaseBodyModelWrong : ChangeSpec := { name := "fnTryToInlineCaseBodyModel", fn := fun _ => fun
  | [d1, d2] => { results := [.lit (.bool false)], args := [d1, d2] }
  | _ => none }
def FnTryToInlineCaseBodyModelWrongFalsely : Prop := fnTryToInlineCaseBodyModelRow.holds Try.pinned (OpenSpec.ofChange fnTryToInlineCaseBodyModelWrong)

/-- 'n011_252.FnAnalyzeSwitchLivenessAtMostOneLive': WHATEVER THE INPUT: true; the input reads as it did. -/
def fnAnalyzeSwitchLivenessAtMostOneLiveSpec : ChangeSpec := { name := "fnAnalyzeSwitchLivenessAtMostOneLive", fn := fun _ => fun
  | [d1, d2, d3, d4, d5] => { results := [.lit (.bool true)], args := [d1, d2, d3, d4, d5] }
  | _ => none }
def fnAnalyzeSwitchLivenessAtMostOneLiveRow : OpenClaim := { program := "ytjnffbnipjkibaa", sum := "2b81024e736d7c2f1734d19ab84ac7973035a62b7df710dc3b17334829dad942", func := "github.com/evanw/esbuild/n011_252.FnAnalyzeSwitchLivenessAtMostOneLive", spec := "fnAnalyzeSwitchLivenessAtMostOneLive", recurses := true, apart := false }
def FnAnalyzeSwitchLivenessAtMostOneLiveSaid : Prop := fnAnalyzeSwitchLivenessAtMostOneLiveRow.holds Try.pinned (OpenSpec.ofChange fnAnalyzeSwitchLivenessAtMostOneLiveSpec)

/-- ITS FALSE NEIGHBOUR: 'it returns false'. Refute it at one input. -/
def fnAnalyzeSwitchLivenessAtMostOneLiveWrong : ChangeSpec := { name := "fnAnalyzeSwitchLivenessAtMostOneLive", fn := fun _ => fun
  | [d1, d2, d3, d4, d5] => { results := [.lit (.bool false)], args := [d1, d2, d3, d4, d5] }
  | _ => none }
def FnAnalyzeSwitchLivenessAtMostOneLiveWrongFalsely : Prop := fnAnalyzeSwitchLivenessAtMostOneLiveRow.holds Try.pinned (OpenSpec.ofChange fnAnalyzeSwitchLivenessAtMostOneLiveWrong)

/-- 'n011_252.FnAnalyzeSwitchLivenessModel': WHATEVER THE INPUT: true; the input reads as it did. -/
def fnAnalyzeSwitchLivenessModelSpec : ChangeSpec := { name := "fnAnalyzeSwitchLivenessModel", fn := fun _ => fun
  | [d1, d2, d3, d4, d5] => { results := [.lit (.bool true)], args := [d1, d2, d3, d4, d5] }
  | _ => none }
def fnAnalyzeSwitchLivenessModelRow : OpenClaim := { program := "ytjnffbnipjkibaa", sum := "2b81024e736d7c2f1734d19ab84ac7973035a62b7df710dc3b17334829dad942", func := "github.com/evanw/esbuild/n011_252.FnAnalyzeSwitchLivenessModel", spec := "fnAnalyzeSwitchLivenessModel", recurses := true, apart := false }
def FnAnalyzeSwitchLivenessModelSaid : Prop := fnAnalyzeSwitchLivenessModelRow.holds Try.pinned (OpenSpec.ofChange fnAnalyzeSwitchLivenessModelSpec)

/-- ITS FALSE NEIGHBOUR: 'it returns false'. Refute it at one input. -/
def fnAnalyzeSwitchLivenessModelWrong : ChangeSpec := { name := "fnAnalyzeSwitchLivenessModel", fn := fun _ => fun
  | [d1, d2, d3, d4, d5] => { results := [.lit (.bool false)], args := [d1, d2, d3, d4, d5] }
  | _ => none }
def FnAnalyzeSwitchLivenessModelWrongFalsely : Prop := fnAnalyzeSwitchLivenessModelRow.holds Try.pinned (OpenSpec.ofChange fnAnalyzeSwitchLivenessModelWrong)

/- THE SECOND FORM. 'bulk': how many values and letters a reading holds, each counted each time it is reached (what is shared counts as often as it is met; a slice's spare places count too). A statement '..UptoSaid' is the law's where the arguments, and the package variables that the reading takes, are together of bulk at most 1048576: NARROWER than '..Said'. Prove '..Said' where nothing that the law and all that it calls make is longer than what came in: it says more and counts as full. Else prove '..UptoSaid'. A law counts once. -/
mutual
def uptoBulk {H : Type} : DataW H → Nat
  | .lit (.string bytes) => bytes.length + 1
  | .lit _ => 1
  | .nil => 1
  | .ptr d => uptoBulk d + 1
  | .slice elems spare => uptoBulkAll elems + uptoBulkAll spare + 1
  | .agg parts => uptoBulkAll parts + 1
  | .iface _ d => uptoBulk d + 1
  | .map entries => uptoBulkEntries entries + 1
  | .held _ => 1
def uptoBulkAll {H : Type} : List (DataW H) → Nat
  | [] => 0
  | d :: r => uptoBulk d + uptoBulkAll r
def uptoBulkEntries {H : Type} : List (Lit × DataW H) → Nat
  | [] => 0
  | x :: r => uptoBulkEntry x + uptoBulkEntries r
def uptoBulkEntry {H : Type} : Lit × DataW H → Nat
  | (.string bytes, d) => bytes.length + uptoBulk d + 1
  | (_, d) => uptoBulk d + 1
 end
def uptoSmall : (H : Type) → List (DataW H) → Bool := fun _ ds => decide (uptoBulkAll ds ≤ 1048576)
def OpenSpec.upto (s : _root_.Go.ChangeSpec) : _root_.Go.OpenSpec := { _root_.Go.OpenSpec.ofChange s with cond := some uptoSmall }

/-- 'n011_107.FnTryToInlineCaseBodyIdempotent', WHERE WHAT IT READS IS OF BULK AT MOST 1048576: true; the input reads as it did. -/
def fnTryToInlineCaseBodyIdempotentUptoRow : OpenClaim := { program := "ytjnffbnipjkibaa", sum := "2b81024e736d7c2f1734d19ab84ac7973035a62b7df710dc3b17334829dad942", func := "github.com/evanw/esbuild/n011_107.FnTryToInlineCaseBodyIdempotent", spec := "fnTryToInlineCaseBodyIdempotent", recurses := true, apart := false, narrowed := true }
def FnTryToInlineCaseBodyIdempotentUptoSaid : Prop := fnTryToInlineCaseBodyIdempotentUptoRow.holds Try.pinned (OpenSpec.upto fnTryToInlineCaseBodyIdempotentSpec)

/-- 'n011_107.FnTryToInlineCaseBodyModel', WHERE WHAT IT READS IS OF BULK AT MOST 1048576: true; the input reads as it did. -/
def fnTryToInlineCaseBodyModelUptoRow : OpenClaim := { program := "ytjnffbnipjkibaa", sum := "2b81024e736d7c2f1734d19ab84ac7973035a62b7df710dc3b17334829dad942", func := "github.com/evanw/esbuild/n011_107.FnTryToInlineCaseBodyModel", spec := "fnTryToInlineCaseBodyModel", recurses := true, apart := false, narrowed := true }
def FnTryToInlineCaseBodyModelUptoSaid : Prop := fnTryToInlineCaseBodyModelUptoRow.holds Try.pinned (OpenSpec.upto fnTryToInlineCaseBodyModelSpec)

/-- 'n011_252.FnAnalyzeSwitchLivenessAtMostOneLive', WHERE WHAT IT READS IS OF BULK AT MOST 1048576: true; the input reads as it did. -/
def fnAnalyzeSwitchLivenessAtMostOneLiveUptoRow : OpenClaim := { program := "ytjnffbnipjkibaa", sum := "2b81024e736d7c2f1734d19ab84ac7973035a62b7df710dc3b17334829dad942", func := "github.com/evanw/esbuild/n011_252.FnAnalyzeSwitchLivenessAtMostOneLive", spec := "fnAnalyzeSwitchLivenessAtMostOneLive", recurses := true, apart := false, narrowed := true }
def FnAnalyzeSwitchLivenessAtMostOneLiveUptoSaid : Prop := fnAnalyzeSwitchLivenessAtMostOneLiveUptoRow.holds Try.pinned (OpenSpec.upto fnAnalyzeSwitchLivenessAtMostOneLiveSpec)

/-- 'n011_252.FnAnalyzeSwitchLivenessModel', WHERE WHAT IT READS IS OF BULK AT MOST 1048576: true; the input reads as it did. -/
def fnAnalyzeSwitchLivenessModelUptoRow : OpenClaim := { program := "ytjnffbnipjkibaa", sum := "2b81024e736d7c2f1734d19ab84ac7973035a62b7df710dc3b17334829dad942", func := "github.com/evanw/esbuild/n011_252.FnAnalyzeSwitchLivenessModel", spec := "fnAnalyzeSwitchLivenessModel", recurses := true, apart := false, narrowed := true }
def FnAnalyzeSwitchLivenessModelUptoSaid : Prop := fnAnalyzeSwitchLivenessModelUptoRow.holds Try.pinned (OpenSpec.upto fnAnalyzeSwitchLivenessModelSpec)

end Rows
end Go.Proofs.Ytjnffbnipjkibaa
