/-
  DERIVED. GIVEN WITH THE SEED: THE CARDS: each row of YtlbkdflbhhbibaaDoorRows.lean that lists a variable, with what it lists TIED to the program's text (the seventh form; the later family's looks); each row that meets fmt, with fmt's text TOLD by the authors' own Lean function (tested against real Go, not proved from fmt's source: count such statements apart). THE CARD IS WHAT COUNTS. Prove the row's statement (the work); the ties are given (YtlbkdflbhhbibaaDoorTie.lean); close each card by the builder's one call (the guide's Derived/Test/ToyasCard.lean, 'card_holds'). Laid BY PROGRAM, IN A SANDBOX (cutbox-door.mjs). By AI agents, Wed Nov 11 2026. No macro, syntax, notation, axiom, sorry.
-/
import Derived.Test.YtlbkdflbhhbibaaDoorRows
import GoSem.ClaimSeven
namespace Go.Proofs.YtlbkdflbhhbibaaDoor
namespace Rows

/-- THE TIED CARD OF 'n011_239.FnKeepClassOrFnSymbolNameSpec'. -/
def fnKeepClassOrFnSymbolNameSpecCard : Claim7 := { stood := { row := fnKeepClassOrFnSymbolNameSpecRow, standIns := [], harness := (true, "d2e7f4e0a68f54ac5521c1f93219a4db8d37371c399115177d4cad843ffc5950"), looks := true }, kinds := [], alts := [], laidByText := true, laidKinds := [.data], laidTests := true, laidLooks := .later }
def FnKeepClassOrFnSymbolNameSpecCardSaid : Prop := Claim7.holds Tryd.pinned (.plain (OpenSpec.ofChange fnKeepClassOrFnSymbolNameSpecSpec)) fnKeepClassOrFnSymbolNameSpecCard

/-- THE TIED CARD OF 'n011_239.FnKeepNameCallsShareOneRuntimeSymbol'. -/
def fnKeepNameCallsShareOneRuntimeSymbolCard : Claim7 := { stood := { row := fnKeepNameCallsShareOneRuntimeSymbolRow, standIns := [], harness := (true, "d2e7f4e0a68f54ac5521c1f93219a4db8d37371c399115177d4cad843ffc5950"), looks := true }, kinds := [], alts := [], laidByText := true, laidKinds := [.data], laidTests := true, laidLooks := .later }
def FnKeepNameCallsShareOneRuntimeSymbolCardSaid : Prop := Claim7.holds Tryd.pinned (.plain (OpenSpec.ofChange fnKeepNameCallsShareOneRuntimeSymbolSpec)) fnKeepNameCallsShareOneRuntimeSymbolCard

/-- THE SECOND FORM's CARD OF 'n011_239.FnKeepClassOrFnSymbolNameSpec'. -/
def fnKeepClassOrFnSymbolNameSpecUptoCard : Claim7 := { stood := { row := fnKeepClassOrFnSymbolNameSpecUptoRow, standIns := [], harness := (true, "d2e7f4e0a68f54ac5521c1f93219a4db8d37371c399115177d4cad843ffc5950"), looks := true }, kinds := [], alts := [], laidByText := true, laidKinds := [.data], laidTests := true, laidLooks := .later }
def FnKeepClassOrFnSymbolNameSpecUptoCardSaid : Prop := Claim7.holds Tryd.pinned (.plain (OpenSpec.upto fnKeepClassOrFnSymbolNameSpecSpec)) fnKeepClassOrFnSymbolNameSpecUptoCard

/-- THE SECOND FORM's CARD OF 'n011_239.FnKeepNameCallsShareOneRuntimeSymbol'. -/
def fnKeepNameCallsShareOneRuntimeSymbolUptoCard : Claim7 := { stood := { row := fnKeepNameCallsShareOneRuntimeSymbolUptoRow, standIns := [], harness := (true, "d2e7f4e0a68f54ac5521c1f93219a4db8d37371c399115177d4cad843ffc5950"), looks := true }, kinds := [], alts := [], laidByText := true, laidKinds := [.data], laidTests := true, laidLooks := .later }
def FnKeepNameCallsShareOneRuntimeSymbolUptoCardSaid : Prop := Claim7.holds Tryd.pinned (.plain (OpenSpec.upto fnKeepNameCallsShareOneRuntimeSymbolSpec)) fnKeepNameCallsShareOneRuntimeSymbolUptoCard
end Rows
end Go.Proofs.YtlbkdflbhhbibaaDoor
