/- Proved here: the closed facts of the row of FnGenerateImportStmtWholeAnswer, each by the kernel on its own. No condition. -/
import Derived.Test.YtoblkmnhoiodcaaDoorRows
import Derived.JoinedOf
import Derived.KernelRfl
namespace Go.Proofs.YtoblkmnhoiodcaaDoor.fnGenerateImportStmtWholeAnswer
set_option maxRecDepth 100000
theorem fact0 : (Rows.fnGenerateImportStmtWholeAnswerRow.wf (OpenSpec.ofChange Rows.fnGenerateImportStmtWholeAnswerSpec)) = true := by kernel_rfl
theorem fact1 : (laidOutB Tryd.pinned.checked.prog) = true := by kernel_rfl
theorem fact2 : (mapsRowed Tryd.pinned.checked.prog) = true := by kernel_rfl
theorem fact3 : (Tryd.f3.params.all (Tryd.pinned.checked.prog.readableRec ·)) = true := by kernel_rfl
theorem fact4 : (namedTie Tryd.pinned.checked.prog Rows.fnGenerateImportStmtWholeAnswerRow.named Rows.fnGenerateImportStmtWholeAnswerSpec.vars) = true := by kernel_rfl
theorem fact5 : ((Rows.fnGenerateImportStmtWholeAnswerRow.stops == [])) = true := by kernel_rfl
theorem fact6 : ((Tryd.pinned.checked.prog.stops == [])) = true := by kernel_rfl
theorem fact7 : ((Rows.fnGenerateImportStmtWholeAnswerRow.knobs == [])) = true := by kernel_rfl
theorem fact8 : ((Tryd.pinned.checked.prog.stopKnobs == [])) = true := by kernel_rfl
theorem fact9 : ((Rows.fnGenerateImportStmtWholeAnswerRow.inPlace == Tryd.pinned.checked.prog.inPlace 3)) = true := by kernel_rfl
theorem fact10 : ((Rows.fnGenerateImportStmtWholeAnswerRow.unfollowed == Tryd.pinned.checked.prog.unfollowed 3)) = true := by kernel_rfl
theorem fact11 : ((Rows.fnGenerateImportStmtWholeAnswerRow.recurses == Tryd.pinned.checked.prog.recurses 3)) = true := by kernel_rfl
theorem fact12 : ((Rows.fnGenerateImportStmtWholeAnswerRow.named == Tryd.pinned.checked.prog.varsNamed 3)) = true := by kernel_rfl
theorem fact13 : ((Rows.fnGenerateImportStmtWholeAnswerRow.maps == (Tryd.f3.params.toList ++ Rows.fnGenerateImportStmtWholeAnswerSpec.plain.varTypes Tryd.pinned.checked.prog).any (Tryd.pinned.checked.prog.mapsRec ·))) = true := by kernel_rfl
theorem fact14 : ((Rows.fnGenerateImportStmtWholeAnswerRow.ifaces == (Tryd.f3.params.toList ++ Rows.fnGenerateImportStmtWholeAnswerSpec.plain.varTypes Tryd.pinned.checked.prog).any (Tryd.pinned.checked.prog.ifacesRec ·))) = true := by kernel_rfl
theorem fact15 : ((Rows.fnGenerateImportStmtWholeAnswerRow.mapsOut == Tryd.pinned.checked.prog.mapsAmong Tryd.f3.resultTypes.toList)) = true := by kernel_rfl
theorem fact16 : ((Rows.fnGenerateImportStmtWholeAnswerRow.loops == (Tryd.f3.params.toList ++ Rows.fnGenerateImportStmtWholeAnswerSpec.plain.varTypes Tryd.pinned.checked.prog).any (Tryd.pinned.checked.prog.loopsFrom ·))) = true := by kernel_rfl
theorem fact17 : ((Rows.fnGenerateImportStmtWholeAnswerRow.wideKeys == (Tryd.f3.params.toList ++ Rows.fnGenerateImportStmtWholeAnswerSpec.plain.varTypes Tryd.pinned.checked.prog ++ Tryd.f3.resultTypes.toList).any (Tryd.pinned.checked.prog.wideKeysFrom ·))) = true := by kernel_rfl
theorem fact18 : (Rows.fnGenerateImportStmtWholeAnswerSpec.vars.all (Tryd.pinned.checked.prog.varReadable ·)) = true := by kernel_rfl
theorem fact19 : (Tryd.f3.resultTypes.all (fun t => Tryd.pinned.checked.prog.readableRec t && decide (t < Tryd.pinned.checked.prog.types.size))) = true := by kernel_rfl
theorem fact20 : ((Rows.fnGenerateImportStmtWholeAnswerRow.ifacesOut == Tryd.f3.resultTypes.toList.any (Tryd.pinned.checked.prog.ifacesRec ·))) = true := by kernel_rfl
theorem fact21 : ((Rows.fnGenerateImportStmtWholeAnswerRow.loopsOut == Tryd.f3.resultTypes.toList.any (Tryd.pinned.checked.prog.loopsFrom ·))) = true := by kernel_rfl
theorem fact22 : ((Rows.fnGenerateImportStmtWholeAnswerRow.plainKeys == Tryd.pinned.checked.prog.plainKeys)) = true := by kernel_rfl
theorem fact23 : (Rows.fnGenerateImportStmtWholeAnswerRow.shortTexts.isNone) = true := by kernel_rfl
theorem fact24 : (Tryd.pinned.checked.prog.stopsHeard) = true := by kernel_rfl
theorem fact25 : (Tryd.pinned.checked.prog.mayEnter) = true := by kernel_rfl
theorem fact26 : ((Rows.fnGenerateImportStmtWholeAnswerRow.lifted == Tryd.pinned.checked.prog.liftsFinal)) = true := by kernel_rfl
theorem fact27 : ((Tryd.pinned.checked.prog.make == some Rows.fnGenerateImportStmtWholeAnswerRow.make)) = true := by kernel_rfl
theorem fact28 : ((Rows.fnGenerateImportStmtWholeAnswerRow.kinds == (if Rows.fnGenerateImportStmtWholeAnswerRow.domain.isEmpty then [] else Tryd.f3.params.toList.map fun t => match Tryd.pinned.checked.prog.underlying t with | some (.int k) => some k | _ => none))) = true := by kernel_rfl
theorem fact29 : ((Rows.fnGenerateImportStmtWholeAnswerRow.pinned == Rows.fnGenerateImportStmtWholeAnswerRow.pinnedBy)) = true := by kernel_rfl
theorem fact30 : ((Rows.fnGenerateImportStmtWholeAnswerRow.veiled == (Tryd.f3.params.toList ++ Rows.fnGenerateImportStmtWholeAnswerSpec.plain.varTypes Tryd.pinned.checked.prog ++ Tryd.f3.resultTypes.toList).any (Tryd.pinned.checked.prog.veiledRec ·))) = true := by kernel_rfl
theorem fact31 : (Rows.fnGenerateImportStmtWholeAnswerRow.veiledFits Tryd.pinned.checked.prog Tryd.f3.params.toList (Tryd.f3.params.toList ++ Rows.fnGenerateImportStmtWholeAnswerSpec.plain.varTypes Tryd.pinned.checked.prog ++ Tryd.f3.resultTypes.toList)) = true := by kernel_rfl
theorem and2 {a b : Bool} (ha : a = true) (hb : b = true) : (a && b) = true := by rw [ha, hb]; rfl
theorem facts : joinedFacts Tryd.pinned.checked.prog 3 Tryd.f3 Rows.fnGenerateImportStmtWholeAnswerSpec Rows.fnGenerateImportStmtWholeAnswerRow = true := (and2 (and2 (and2 (and2 (and2 (and2 (and2 (and2 (and2 (and2 (and2 (and2 (and2 (and2 (and2 (and2 (and2 (and2 (and2 (and2 (and2 (and2 (and2 (and2 (and2 (and2 (and2 (and2 (and2 (and2 (and2 fact0 fact1) fact2) fact3) fact4) fact5) fact6) fact7) fact8) fact9) fact10) fact11) fact12) fact13) fact14) fact15) fact16) fact17) fact18) fact19) fact20) fact21) fact22) fact23) fact24) fact25) fact26) fact27) fact28) fact29) fact30) fact31)
theorem named : Tryd.pinned.checked.prog.funcNamed Rows.fnGenerateImportStmtWholeAnswerRow.func = some 3 := by kernel_rfl
theorem inst : Tryd.f3.isInstance Tryd.pinned.checked.prog Rows.fnGenerateImportStmtWholeAnswerRow.origin Rows.fnGenerateImportStmtWholeAnswerRow.targs := of_decide_eq_true (by kernel_rfl)
theorem wrap : Tryd.f3.isWrapper Tryd.pinned.checked.prog Rows.fnGenerateImportStmtWholeAnswerRow.wrapper Rows.fnGenerateImportStmtWholeAnswerRow.mainSum := by unfold Func.isWrapper; first | (rw [if_pos (by decide +kernel)]; kernel_rfl) | (rw [if_neg (by decide +kernel)]; exact ⟨rfl, rfl⟩)
end Go.Proofs.YtoblkmnhoiodcaaDoor.fnGenerateImportStmtWholeAnswer
