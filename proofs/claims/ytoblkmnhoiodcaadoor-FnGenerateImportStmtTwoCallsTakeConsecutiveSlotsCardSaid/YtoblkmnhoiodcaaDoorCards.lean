/-
  DERIVED. GIVEN WITH THE SEED: THE CARDS: each row of YtoblkmnhoiodcaaDoorRows.lean that lists a variable, with what it lists TIED to the program's text (the seventh form; the later family's looks); each row that meets fmt, with fmt's text TOLD by the authors' own Lean function (tested against real Go, not proved from fmt's source: count such statements apart). THE CARD IS WHAT COUNTS. Prove the row's statement (the work); the ties are given (YtoblkmnhoiodcaaDoorTie.lean); close each card by the builder's one call (the guide's Derived/Test/ToyasCard.lean, 'card_holds'). Laid BY PROGRAM, IN A SANDBOX (cutbox-door.mjs). By AI agents, Wed Nov 11 2026. No macro, syntax, notation, axiom, sorry.
-/
import Derived.Test.YtoblkmnhoiodcaaDoorRows
import GoSem.ClaimSeven
namespace Go.Proofs.YtoblkmnhoiodcaaDoor
namespace Rows

/-- THE TIED CARD OF 'n011_149.FnGenerateImportStmtWholeAnswer'. -/
def fnGenerateImportStmtWholeAnswerCard : Claim7 := { stood := { row := fnGenerateImportStmtWholeAnswerRow, standIns := [], harness := (true, "e624bb8f8e92791d8923206a2131a9a9aff39a466ba24139c97840332068ea59"), looks := false }, kinds := [], alts := [], laidByText := true, laidKinds := [.data, .data, .pinned], laidTests := true, laidLooks := .later }
def FnGenerateImportStmtWholeAnswerCardSaid : Prop := Claim7.holds Tryd.pinned (.plain (OpenSpec.ofChange fnGenerateImportStmtWholeAnswerSpec)) fnGenerateImportStmtWholeAnswerCard

/-- THE TIED CARD OF 'n011_149.FnGenerateImportStmtTwoCallsTakeConsecutiveSlots'. -/
def fnGenerateImportStmtTwoCallsTakeConsecutiveSlotsCard : Claim7 := { stood := { row := fnGenerateImportStmtTwoCallsTakeConsecutiveSlotsRow, standIns := [], harness := (true, "e624bb8f8e92791d8923206a2131a9a9aff39a466ba24139c97840332068ea59"), looks := false }, kinds := [], alts := [], laidByText := true, laidKinds := [.data, .data, .pinned], laidTests := true, laidLooks := .later }
def FnGenerateImportStmtTwoCallsTakeConsecutiveSlotsCardSaid : Prop := Claim7.holds Tryd.pinned (.plain (OpenSpec.ofChange fnGenerateImportStmtTwoCallsTakeConsecutiveSlotsSpec)) fnGenerateImportStmtTwoCallsTakeConsecutiveSlotsCard

/-- THE SECOND FORM's CARD OF 'n011_149.FnGenerateImportStmtWholeAnswer'. -/
def fnGenerateImportStmtWholeAnswerUptoCard : Claim7 := { stood := { row := fnGenerateImportStmtWholeAnswerUptoRow, standIns := [], harness := (true, "e624bb8f8e92791d8923206a2131a9a9aff39a466ba24139c97840332068ea59"), looks := false }, kinds := [], alts := [], laidByText := true, laidKinds := [.data, .data, .pinned], laidTests := true, laidLooks := .later }
def FnGenerateImportStmtWholeAnswerUptoCardSaid : Prop := Claim7.holds Tryd.pinned (.plain (OpenSpec.upto fnGenerateImportStmtWholeAnswerSpec)) fnGenerateImportStmtWholeAnswerUptoCard

/-- THE SECOND FORM's CARD OF 'n011_149.FnGenerateImportStmtTwoCallsTakeConsecutiveSlots'. -/
def fnGenerateImportStmtTwoCallsTakeConsecutiveSlotsUptoCard : Claim7 := { stood := { row := fnGenerateImportStmtTwoCallsTakeConsecutiveSlotsUptoRow, standIns := [], harness := (true, "e624bb8f8e92791d8923206a2131a9a9aff39a466ba24139c97840332068ea59"), looks := false }, kinds := [], alts := [], laidByText := true, laidKinds := [.data, .data, .pinned], laidTests := true, laidLooks := .later }
def FnGenerateImportStmtTwoCallsTakeConsecutiveSlotsUptoCardSaid : Prop := Claim7.holds Tryd.pinned (.plain (OpenSpec.upto fnGenerateImportStmtTwoCallsTakeConsecutiveSlotsSpec)) fnGenerateImportStmtTwoCallsTakeConsecutiveSlotsUptoCard
end Rows
end Go.Proofs.YtoblkmnhoiodcaaDoor
