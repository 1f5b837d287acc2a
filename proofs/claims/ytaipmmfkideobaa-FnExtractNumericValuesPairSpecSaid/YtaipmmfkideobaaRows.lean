/-
  No cell of these rows narrows 'for every input' (looked for: loops, veiled, ifaces, maps, wideKeys, modest, calm, conditions, laid).
  DERIVED. THE GIVEN ROWS OF THIS SEAT. 5 by the template 'for every input the law returns true; each argument reads behind the call as it read before'; 0 by the template 'total and deterministic' (their statements: YtaipmmfkideobaaTotals.lean).
  GIVEN WITH THE SEED: the statements are not yours to turn. If you find one false, say at which input.
  Laid BY PROGRAM, IN A SANDBOX (cutbox-rows.mjs): the forced cells as the released guide's own fill.sh prints them over the translation bca968182450b144… (all of the seat's roots in one cut). By AI agents, Wed Nov 11 2026. No macro, syntax, notation, axiom, sorry.
-/
import Derived.Test.YtaipmmfkideobaaChecked
import GoSem.Claim
import GoSem.ClaimJoined
import GoSem.ClaimMapViews
import Derived.JoinedTies
import Derived.KernelRfl
namespace Go.Proofs.Ytaipmmfkideobaa
/- THE CELL 'sum', in the pinned program and in every row, IS THE sha256 OF THE DUMP (.gsa) THAT YtaipmmfkideobaaProg.lean LOADS. Nothing in Lean hashes anything: it is a label: what it is worth is what the hold of that sum in a sandbox is worth. -/
noncomputable def Try.pinned : Pinned := { name := "ytaipmmfkideobaa", sum := "bca968182450b144810d8d92dd7079be843b8fb635c3387ab0709c280df2dad0", checked := Try.checked }
namespace Rows
def none {H : Type} : Left H := { results := [], args := [] }

/-- 'n011_37.FnNotIsAlwaysKnownBoolean': WHATEVER THE INPUT: true; the input reads as it did. -/
def fnNotIsAlwaysKnownBooleanSpec : ChangeSpec := { name := "fnNotIsAlwaysKnownBoolean", fn := fun _ => fun
  | [d] => { results := [.lit (.bool true)], args := [d] }
  | _ => none }
def fnNotIsAlwaysKnownBooleanRow : OpenClaim := { program := "ytaipmmfkideobaa", sum := "bca968182450b144810d8d92dd7079be843b8fb635c3387ab0709c280df2dad0", func := "github.com/evanw/esbuild/n011_37.FnNotIsAlwaysKnownBoolean", spec := "fnNotIsAlwaysKnownBoolean", recurses := true, apart := false }
def FnNotIsAlwaysKnownBooleanSaid : Prop := fnNotIsAlwaysKnownBooleanRow.holds Try.pinned (OpenSpec.ofChange fnNotIsAlwaysKnownBooleanSpec)

/-- ITS FALSE NEIGHBOUR: 'it returns false'. Refute it at one input. -/
def fnNotIsAlwaysKnownBooleanWrong : ChangeSpec := { name := "fnNotIsAlwaysKnownBoolean", fn := fun _ => fun
  | [d] => { results := [.lit (.bool false)], args := [d] }
  | _ => none }
def FnNotIsAlwaysKnownBooleanWrongFalsely : Prop := fnNotIsAlwaysKnownBooleanRow.holds Try.pinned (OpenSpec.ofChange fnNotIsAlwaysKnownBooleanWrong)

/-- 'n011_47.FnExtractNumericStringDisjoint': WHATEVER THE INPUT: true; the input reads as it did. -/
def fnExtractNumericStringDisjointSpec : ChangeSpec := { name := "fnExtractNumericStringDisjoint", fn := fun _ => fun
  | [d1, d2, d3, d4] => { results := [.lit (.bool true)], args := [d1, d2, d3, d4] }
  | _ => none }
def fnExtractNumericStringDisjointRow : OpenClaim := { program := "ytaipmmfkideobaa", sum := "bca968182450b144810d8d92dd7079be843b8fb635c3387ab0709c280df2dad0", func := "github.com/evanw/esbuild/n011_47.FnExtractNumericStringDisjoint", spec := "fnExtractNumericStringDisjoint", recurses := true, apart := false }
def FnExtractNumericStringDisjointSaid : Prop := fnExtractNumericStringDisjointRow.holds Try.pinned (OpenSpec.ofChange fnExtractNumericStringDisjointSpec)

/-- ITS FALSE NEIGHBOUR: 'it returns false'. Refute it at one input. -/
def fnExtractNumericStringDisjointWrong : ChangeSpec := { name := "fnExtractNumericStringDisjoint", fn := fun _ => fun
  | [d1, d2, d3, d4] => { results := [.lit (.bool false)], args := [d1, d2, d3, d4] }
  | _ => none }
def FnExtractNumericStringDisjointWrongFalsely : Prop := fnExtractNumericStringDisjointRow.holds Try.pinned (OpenSpec.ofChange fnExtractNumericStringDisjointWrong)

/-- 'n011_47.FnExtractNumericValuesPairSpec': WHATEVER THE INPUT: true; the input reads as it did. -/
def fnExtractNumericValuesPairSpecSpec : ChangeSpec := { name := "fnExtractNumericValuesPairSpec", fn := fun _ => fun
  | [d1, d2, d3, d4, d5, d6] => { results := [.lit (.bool true)], args := [d1, d2, d3, d4, d5, d6] }
  | _ => none }
def fnExtractNumericValuesPairSpecRow : OpenClaim := { program := "ytaipmmfkideobaa", sum := "bca968182450b144810d8d92dd7079be843b8fb635c3387ab0709c280df2dad0", func := "github.com/evanw/esbuild/n011_47.FnExtractNumericValuesPairSpec", spec := "fnExtractNumericValuesPairSpec", recurses := true, apart := false }
def FnExtractNumericValuesPairSpecSaid : Prop := fnExtractNumericValuesPairSpecRow.holds Try.pinned (OpenSpec.ofChange fnExtractNumericValuesPairSpecSpec)

/-- ITS FALSE NEIGHBOUR: 'it returns false'. Refute it at one input. -/
def fnExtractNumericValuesPairSpecWrong : ChangeSpec := { name := "fnExtractNumericValuesPairSpec", fn := fun _ => fun
  | [d1, d2, d3, d4, d5, d6] => { results := [.lit (.bool false)], args := [d1, d2, d3, d4, d5, d6] }
  | _ => none }
def FnExtractNumericValuesPairSpecWrongFalsely : Prop := fnExtractNumericValuesPairSpecRow.holds Try.pinned (OpenSpec.ofChange fnExtractNumericValuesPairSpecWrong)

/-- 'n011_37.FnMergedCommutesAndIsIdempotent': WHATEVER THE INPUT: true; the input reads as it did. -/
def fnMergedCommutesAndIsIdempotentSpec : ChangeSpec := { name := "fnMergedCommutesAndIsIdempotent", fn := fun _ => fun
  | [d1, d2] => { results := [.lit (.bool true)], args := [d1, d2] }
  | _ => none }
def fnMergedCommutesAndIsIdempotentRow : OpenClaim := { program := "ytaipmmfkideobaa", sum := "bca968182450b144810d8d92dd7079be843b8fb635c3387ab0709c280df2dad0", func := "github.com/evanw/esbuild/n011_37.FnMergedCommutesAndIsIdempotent", spec := "fnMergedCommutesAndIsIdempotent", recurses := true, apart := false }
def FnMergedCommutesAndIsIdempotentSaid : Prop := fnMergedCommutesAndIsIdempotentRow.holds Try.pinned (OpenSpec.ofChange fnMergedCommutesAndIsIdempotentSpec)

/-- ITS FALSE NEIGHBOUR: 'it returns false'. Refute it at one input. -/
def fnMergedCommutesAndIsIdempotentWrong : ChangeSpec := { name := "fnMergedCommutesAndIsIdempotent", fn := fun _ => fun
  | [d1, d2] => { results := [.lit (.bool false)], args := [d1, d2] }
  | _ => none }
def FnMergedCommutesAndIsIdempotentWrongFalsely : Prop := fnMergedCommutesAndIsIdempotentRow.holds Try.pinned (OpenSpec.ofChange fnMergedCommutesAndIsIdempotentWrong)

/-- 'n011_35.FnIsOptionalChainOutermostDecides': WHATEVER THE INPUT: true; the input reads as it did. -/
def fnIsOptionalChainOutermostDecidesSpec : ChangeSpec := { name := "fnIsOptionalChainOutermostDecides", fn := fun _ => fun
  | [d1, d2, d3] => { results := [.lit (.bool true)], args := [d1, d2, d3] }
  | _ => none }
def fnIsOptionalChainOutermostDecidesRow : OpenClaim := { program := "ytaipmmfkideobaa", sum := "bca968182450b144810d8d92dd7079be843b8fb635c3387ab0709c280df2dad0", func := "github.com/evanw/esbuild/n011_35.FnIsOptionalChainOutermostDecides", spec := "fnIsOptionalChainOutermostDecides", apart := false }
def FnIsOptionalChainOutermostDecidesSaid : Prop := fnIsOptionalChainOutermostDecidesRow.holds Try.pinned (OpenSpec.ofChange fnIsOptionalChainOutermostDecidesSpec)

/-- ITS FALSE NEIGHBOUR: 'it returns false'. Refute it at one input. -/
def fnIsOptionalChainOutermostDecidesWrong : ChangeSpec := { name := "fnIsOptionalChainOutermostDecides", fn := fun _ => fun
  | [d1, d2, d3] => { results := [.lit (.bool false)], args := [d1, d2, d3] }
  | _ => none }
def FnIsOptionalChainOutermostDecidesWrongFalsely : Prop := fnIsOptionalChainOutermostDecidesRow.holds Try.pinned (OpenSpec.ofChange fnIsOptionalChainOutermostDecidesWrong)

/- THE SECOND FORM. 'bulk': how many values and letters a reading holds, each counted each time it is reached (what is shared counts as often as it is met; a slice's spare places count too). A statement '..UptoSaid' is the law's where the arguments, and the package variables that the reading takes, are together of bulk at most 1048576: NARROWER than '..Said'. Prove '..Said' where nothing that the law and all that it calls make is longer than what came in: it says more and counts as full. Else prove '..UptoSaid'. A law counts once. -/
mutual
def uptoBulk {H : Type} : DataW H → Nat
  | .lit (.string bytes) => bytes.length + 1
  | .lit _ => 1
  | .nil => 1
  | .ptr d => uptoBulk d + 1
  | .slice elems spare => uptoBulkAll elems + uptoBulkAll spare + 1
  | .agg parts => uptoBulkAll parts + 1
  | .iface _ d => uptoBulk d + 1
  | .map entries => uptoBulkEntries entries + 1
  | .held _ => 1
def uptoBulkAll {H : Type} : List (DataW H) → Nat
  | [] => 0
  | d :: r => uptoBulk d + uptoBulkAll r
def uptoBulkEntries {H : Type} : List (Lit × DataW H) → Nat
  | [] => 0
  | x :: r => uptoBulkEntry x + uptoBulkEntries r
def uptoBulkEntry {H : Type} : Lit × DataW H → Nat
  | (.string bytes, d) => bytes.length + uptoBulk d + 1
  | (_, d) => uptoBulk d + 1
 end
def uptoSmall : (H : Type) → List (DataW H) → Bool := fun _ ds => decide (uptoBulkAll ds ≤ 1048576)
def OpenSpec.upto (s : _root_.Go.ChangeSpec) : _root_.Go.OpenSpec := { _root_.Go.OpenSpec.ofChange s with cond := some uptoSmall }

/-- 'n011_37.FnNotIsAlwaysKnownBoolean', WHERE WHAT IT READS IS OF BULK AT MOST 1048576: true; the input reads as it did. -/
def fnNotIsAlwaysKnownBooleanUptoRow : OpenClaim := { program := "ytaipmmfkideobaa", sum := "bca968182450b144810d8d92dd7079be843b8fb635c3387ab0709c280df2dad0", func := "github.com/evanw/esbuild/n011_37.FnNotIsAlwaysKnownBoolean", spec := "fnNotIsAlwaysKnownBoolean", recurses := true, apart := false, narrowed := true }
def FnNotIsAlwaysKnownBooleanUptoSaid : Prop := fnNotIsAlwaysKnownBooleanUptoRow.holds Try.pinned (OpenSpec.upto fnNotIsAlwaysKnownBooleanSpec)

/-- 'n011_47.FnExtractNumericStringDisjoint', WHERE WHAT IT READS IS OF BULK AT MOST 1048576: true; the input reads as it did. -/
def fnExtractNumericStringDisjointUptoRow : OpenClaim := { program := "ytaipmmfkideobaa", sum := "bca968182450b144810d8d92dd7079be843b8fb635c3387ab0709c280df2dad0", func := "github.com/evanw/esbuild/n011_47.FnExtractNumericStringDisjoint", spec := "fnExtractNumericStringDisjoint", recurses := true, apart := false, narrowed := true }
def FnExtractNumericStringDisjointUptoSaid : Prop := fnExtractNumericStringDisjointUptoRow.holds Try.pinned (OpenSpec.upto fnExtractNumericStringDisjointSpec)

/-- 'n011_47.FnExtractNumericValuesPairSpec', WHERE WHAT IT READS IS OF BULK AT MOST 1048576: true; the input reads as it did. -/
def fnExtractNumericValuesPairSpecUptoRow : OpenClaim := { program := "ytaipmmfkideobaa", sum := "bca968182450b144810d8d92dd7079be843b8fb635c3387ab0709c280df2dad0", func := "github.com/evanw/esbuild/n011_47.FnExtractNumericValuesPairSpec", spec := "fnExtractNumericValuesPairSpec", recurses := true, apart := false, narrowed := true }
def FnExtractNumericValuesPairSpecUptoSaid : Prop := fnExtractNumericValuesPairSpecUptoRow.holds Try.pinned (OpenSpec.upto fnExtractNumericValuesPairSpecSpec)

/-- 'n011_37.FnMergedCommutesAndIsIdempotent', WHERE WHAT IT READS IS OF BULK AT MOST 1048576: true; the input reads as it did. -/
def fnMergedCommutesAndIsIdempotentUptoRow : OpenClaim := { program := "ytaipmmfkideobaa", sum := "bca968182450b144810d8d92dd7079be843b8fb635c3387ab0709c280df2dad0", func := "github.com/evanw/esbuild/n011_37.FnMergedCommutesAndIsIdempotent", spec := "fnMergedCommutesAndIsIdempotent", recurses := true, apart := false, narrowed := true }
def FnMergedCommutesAndIsIdempotentUptoSaid : Prop := fnMergedCommutesAndIsIdempotentUptoRow.holds Try.pinned (OpenSpec.upto fnMergedCommutesAndIsIdempotentSpec)

/-- 'n011_35.FnIsOptionalChainOutermostDecides', WHERE WHAT IT READS IS OF BULK AT MOST 1048576: true; the input reads as it did. -/
def fnIsOptionalChainOutermostDecidesUptoRow : OpenClaim := { program := "ytaipmmfkideobaa", sum := "bca968182450b144810d8d92dd7079be843b8fb635c3387ab0709c280df2dad0", func := "github.com/evanw/esbuild/n011_35.FnIsOptionalChainOutermostDecides", spec := "fnIsOptionalChainOutermostDecides", apart := false, narrowed := true }
def FnIsOptionalChainOutermostDecidesUptoSaid : Prop := fnIsOptionalChainOutermostDecidesUptoRow.holds Try.pinned (OpenSpec.upto fnIsOptionalChainOutermostDecidesSpec)

end Rows
end Go.Proofs.Ytaipmmfkideobaa
