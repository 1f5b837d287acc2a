/-
  DERIVED. GIVEN WITH THE SEED: THE CARDS: each row of YtjlmaingeobgeaaDoorRows.lean that lists a variable, with what it lists TIED to the program's text (the seventh form; the later family's looks); each row that meets fmt, with fmt's text TOLD by the authors' own Lean function (tested against real Go, not proved from fmt's source: count such statements apart). THE CARD IS WHAT COUNTS. Prove the row's statement (the work); the ties are given (YtjlmaingeobgeaaDoorTie.lean); close each card by the builder's one call (the guide's Derived/Test/ToyasCard.lean, 'card_holds'). Laid BY PROGRAM, IN A SANDBOX (cutbox-door.mjs). By AI agents, Wed Nov 11 2026. No macro, syntax, notation, axiom, sorry.
-/
import Derived.Test.YtjlmaingeobgeaaDoorRows
import GoSem.ClaimSeven
namespace Go.Proofs.YtjlmaingeobgeaaDoor
namespace Rows

/-- THE TIED CARD OF 'n011_224.FnDuplicateCaseCheckStoresFirstOfEachHash'. -/
def fnDuplicateCaseCheckStoresFirstOfEachHashCard : Claim7 := { stood := { row := fnDuplicateCaseCheckStoresFirstOfEachHashRow, standIns := [], harness := (true, "b7b465800d6750173d8fc658c43790cf772667dc030e6f48d53813b595e992f9"), looks := true }, kinds := [], alts := [], laidByText := true, laidKinds := [.data, .pinned], laidTests := true, laidLooks := .later }
def FnDuplicateCaseCheckStoresFirstOfEachHashCardSaid : Prop := Claim7.holds Tryd.pinned (.plain (OpenSpec.ofChange fnDuplicateCaseCheckStoresFirstOfEachHashSpec)) fnDuplicateCaseCheckStoresFirstOfEachHashCard

/-- THE TIED CARD OF 'n011_224.FnDuplicateCaseCheckIgnoresUnhashable'. -/
def fnDuplicateCaseCheckIgnoresUnhashableCard : Claim7 := { stood := { row := fnDuplicateCaseCheckIgnoresUnhashableRow, standIns := [], harness := (true, "b7b465800d6750173d8fc658c43790cf772667dc030e6f48d53813b595e992f9"), looks := true }, kinds := [], alts := [], laidByText := true, laidKinds := [.data, .pinned], laidTests := true, laidLooks := .later }
def FnDuplicateCaseCheckIgnoresUnhashableCardSaid : Prop := Claim7.holds Tryd.pinned (.plain (OpenSpec.ofChange fnDuplicateCaseCheckIgnoresUnhashableSpec)) fnDuplicateCaseCheckIgnoresUnhashableCard

/-- THE TIED CARD OF 'n011_249.FnObjectSpreadMatchesRightToLeftChain'. -/
def fnObjectSpreadMatchesRightToLeftChainCard : Claim7 := { stood := { row := fnObjectSpreadMatchesRightToLeftChainRow, standIns := [], harness := (true, "b7b465800d6750173d8fc658c43790cf772667dc030e6f48d53813b595e992f9"), looks := true }, kinds := [], alts := [], laidByText := true, laidKinds := [.data], laidTests := true, laidLooks := .later }
def FnObjectSpreadMatchesRightToLeftChainCardSaid : Prop := Claim7.holds Tryd.pinned (.plain (OpenSpec.ofChange fnObjectSpreadMatchesRightToLeftChainSpec)) fnObjectSpreadMatchesRightToLeftChainCard

/-- THE TIED CARD OF 'n011_190.FnRemapLocsInJSONComposesAsOneShift'. -/
def fnRemapLocsInJSONComposesAsOneShiftCard : Claim7 := { stood := { row := fnRemapLocsInJSONComposesAsOneShiftRow, standIns := [], harness := (true, "b7b465800d6750173d8fc658c43790cf772667dc030e6f48d53813b595e992f9"), looks := true }, kinds := [], alts := [], laidByText := true, laidKinds := [.data, .pinned], laidTests := true, laidLooks := .later }
def FnRemapLocsInJSONComposesAsOneShiftCardSaid : Prop := Claim7.holds Tryd.pinned (.plain (OpenSpec.ofChange fnRemapLocsInJSONComposesAsOneShiftSpec)) fnRemapLocsInJSONComposesAsOneShiftCard

/-- THE TIED CARD OF 'n011_190.FnRemapLocsInJSONShiftsByOpeningQuote'. -/
def fnRemapLocsInJSONShiftsByOpeningQuoteCard : Claim7 := { stood := { row := fnRemapLocsInJSONShiftsByOpeningQuoteRow, standIns := [], harness := (true, "b7b465800d6750173d8fc658c43790cf772667dc030e6f48d53813b595e992f9"), looks := true }, kinds := [], alts := [], laidByText := true, laidKinds := [.data, .pinned], laidTests := true, laidLooks := .later }
def FnRemapLocsInJSONShiftsByOpeningQuoteCardSaid : Prop := Claim7.holds Tryd.pinned (.plain (OpenSpec.ofChange fnRemapLocsInJSONShiftsByOpeningQuoteSpec)) fnRemapLocsInJSONShiftsByOpeningQuoteCard

/-- THE SECOND FORM's CARD OF 'n011_224.FnDuplicateCaseCheckStoresFirstOfEachHash'. -/
def fnDuplicateCaseCheckStoresFirstOfEachHashUptoCard : Claim7 := { stood := { row := fnDuplicateCaseCheckStoresFirstOfEachHashUptoRow, standIns := [], harness := (true, "b7b465800d6750173d8fc658c43790cf772667dc030e6f48d53813b595e992f9"), looks := true }, kinds := [], alts := [], laidByText := true, laidKinds := [.data, .pinned], laidTests := true, laidLooks := .later }
def FnDuplicateCaseCheckStoresFirstOfEachHashUptoCardSaid : Prop := Claim7.holds Tryd.pinned (.plain (OpenSpec.upto fnDuplicateCaseCheckStoresFirstOfEachHashSpec)) fnDuplicateCaseCheckStoresFirstOfEachHashUptoCard

/-- THE SECOND FORM's CARD OF 'n011_224.FnDuplicateCaseCheckIgnoresUnhashable'. -/
def fnDuplicateCaseCheckIgnoresUnhashableUptoCard : Claim7 := { stood := { row := fnDuplicateCaseCheckIgnoresUnhashableUptoRow, standIns := [], harness := (true, "b7b465800d6750173d8fc658c43790cf772667dc030e6f48d53813b595e992f9"), looks := true }, kinds := [], alts := [], laidByText := true, laidKinds := [.data, .pinned], laidTests := true, laidLooks := .later }
def FnDuplicateCaseCheckIgnoresUnhashableUptoCardSaid : Prop := Claim7.holds Tryd.pinned (.plain (OpenSpec.upto fnDuplicateCaseCheckIgnoresUnhashableSpec)) fnDuplicateCaseCheckIgnoresUnhashableUptoCard

/-- THE SECOND FORM's CARD OF 'n011_249.FnObjectSpreadMatchesRightToLeftChain'. -/
def fnObjectSpreadMatchesRightToLeftChainUptoCard : Claim7 := { stood := { row := fnObjectSpreadMatchesRightToLeftChainUptoRow, standIns := [], harness := (true, "b7b465800d6750173d8fc658c43790cf772667dc030e6f48d53813b595e992f9"), looks := true }, kinds := [], alts := [], laidByText := true, laidKinds := [.data], laidTests := true, laidLooks := .later }
def FnObjectSpreadMatchesRightToLeftChainUptoCardSaid : Prop := Claim7.holds Tryd.pinned (.plain (OpenSpec.upto fnObjectSpreadMatchesRightToLeftChainSpec)) fnObjectSpreadMatchesRightToLeftChainUptoCard

/-- THE SECOND FORM's CARD OF 'n011_190.FnRemapLocsInJSONComposesAsOneShift'. -/
def fnRemapLocsInJSONComposesAsOneShiftUptoCard : Claim7 := { stood := { row := fnRemapLocsInJSONComposesAsOneShiftUptoRow, standIns := [], harness := (true, "b7b465800d6750173d8fc658c43790cf772667dc030e6f48d53813b595e992f9"), looks := true }, kinds := [], alts := [], laidByText := true, laidKinds := [.data, .pinned], laidTests := true, laidLooks := .later }
def FnRemapLocsInJSONComposesAsOneShiftUptoCardSaid : Prop := Claim7.holds Tryd.pinned (.plain (OpenSpec.upto fnRemapLocsInJSONComposesAsOneShiftSpec)) fnRemapLocsInJSONComposesAsOneShiftUptoCard

/-- THE SECOND FORM's CARD OF 'n011_190.FnRemapLocsInJSONShiftsByOpeningQuote'. -/
def fnRemapLocsInJSONShiftsByOpeningQuoteUptoCard : Claim7 := { stood := { row := fnRemapLocsInJSONShiftsByOpeningQuoteUptoRow, standIns := [], harness := (true, "b7b465800d6750173d8fc658c43790cf772667dc030e6f48d53813b595e992f9"), looks := true }, kinds := [], alts := [], laidByText := true, laidKinds := [.data, .pinned], laidTests := true, laidLooks := .later }
def FnRemapLocsInJSONShiftsByOpeningQuoteUptoCardSaid : Prop := Claim7.holds Tryd.pinned (.plain (OpenSpec.upto fnRemapLocsInJSONShiftsByOpeningQuoteSpec)) fnRemapLocsInJSONShiftsByOpeningQuoteUptoCard
end Rows
end Go.Proofs.YtjlmaingeobgeaaDoor
