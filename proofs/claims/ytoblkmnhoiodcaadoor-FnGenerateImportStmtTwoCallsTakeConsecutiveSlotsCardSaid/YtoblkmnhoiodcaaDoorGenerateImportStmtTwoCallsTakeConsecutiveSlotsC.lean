/- Proved here: the closed facts of the row of FnGenerateImportStmtTwoCallsTakeConsecutiveSlots, each by the kernel on its own. No condition. -/
import Derived.Test.YtoblkmnhoiodcaaDoorRows
import Derived.JoinedOf
import Derived.KernelRfl
namespace Go.Proofs.YtoblkmnhoiodcaaDoor.fnGenerateImportStmtTwoCallsTakeConsecutiveSlots
set_option maxRecDepth 100000
theorem fact0 : (Rows.fnGenerateImportStmtTwoCallsTakeConsecutiveSlotsRow.wf (OpenSpec.ofChange Rows.fnGenerateImportStmtTwoCallsTakeConsecutiveSlotsSpec)) = true := by kernel_rfl
theorem fact1 : (laidOutB Tryd.pinned.checked.prog) = true := by kernel_rfl
theorem fact2 : (mapsRowed Tryd.pinned.checked.prog) = true := by kernel_rfl
theorem fact3 : (Tryd.f4.params.all (Tryd.pinned.checked.prog.readableRec ·)) = true := by kernel_rfl
theorem fact4 : (namedTie Tryd.pinned.checked.prog Rows.fnGenerateImportStmtTwoCallsTakeConsecutiveSlotsRow.named Rows.fnGenerateImportStmtTwoCallsTakeConsecutiveSlotsSpec.vars) = true := by kernel_rfl
theorem fact5 : ((Rows.fnGenerateImportStmtTwoCallsTakeConsecutiveSlotsRow.stops == [])) = true := by kernel_rfl
theorem fact6 : ((Tryd.pinned.checked.prog.stops == [])) = true := by kernel_rfl
theorem fact7 : ((Rows.fnGenerateImportStmtTwoCallsTakeConsecutiveSlotsRow.knobs == [])) = true := by kernel_rfl
theorem fact8 : ((Tryd.pinned.checked.prog.stopKnobs == [])) = true := by kernel_rfl
theorem fact9 : ((Rows.fnGenerateImportStmtTwoCallsTakeConsecutiveSlotsRow.inPlace == Tryd.pinned.checked.prog.inPlace 4)) = true := by kernel_rfl
theorem fact10 : ((Rows.fnGenerateImportStmtTwoCallsTakeConsecutiveSlotsRow.unfollowed == Tryd.pinned.checked.prog.unfollowed 4)) = true := by kernel_rfl
theorem fact11 : ((Rows.fnGenerateImportStmtTwoCallsTakeConsecutiveSlotsRow.recurses == Tryd.pinned.checked.prog.recurses 4)) = true := by kernel_rfl
theorem fact12 : ((Rows.fnGenerateImportStmtTwoCallsTakeConsecutiveSlotsRow.named == Tryd.pinned.checked.prog.varsNamed 4)) = true := by kernel_rfl
theorem fact13 : ((Rows.fnGenerateImportStmtTwoCallsTakeConsecutiveSlotsRow.maps == (Tryd.f4.params.toList ++ Rows.fnGenerateImportStmtTwoCallsTakeConsecutiveSlotsSpec.plain.varTypes Tryd.pinned.checked.prog).any (Tryd.pinned.checked.prog.mapsRec ·))) = true := by kernel_rfl
theorem fact14 : ((Rows.fnGenerateImportStmtTwoCallsTakeConsecutiveSlotsRow.ifaces == (Tryd.f4.params.toList ++ Rows.fnGenerateImportStmtTwoCallsTakeConsecutiveSlotsSpec.plain.varTypes Tryd.pinned.checked.prog).any (Tryd.pinned.checked.prog.ifacesRec ·))) = true := by kernel_rfl
theorem fact15 : ((Rows.fnGenerateImportStmtTwoCallsTakeConsecutiveSlotsRow.mapsOut == Tryd.pinned.checked.prog.mapsAmong Tryd.f4.resultTypes.toList)) = true := by kernel_rfl
theorem fact16 : ((Rows.fnGenerateImportStmtTwoCallsTakeConsecutiveSlotsRow.loops == (Tryd.f4.params.toList ++ Rows.fnGenerateImportStmtTwoCallsTakeConsecutiveSlotsSpec.plain.varTypes Tryd.pinned.checked.prog).any (Tryd.pinned.checked.prog.loopsFrom ·))) = true := by kernel_rfl
theorem fact17 : ((Rows.fnGenerateImportStmtTwoCallsTakeConsecutiveSlotsRow.wideKeys == (Tryd.f4.params.toList ++ Rows.fnGenerateImportStmtTwoCallsTakeConsecutiveSlotsSpec.plain.varTypes Tryd.pinned.checked.prog ++ Tryd.f4.resultTypes.toList).any (Tryd.pinned.checked.prog.wideKeysFrom ·))) = true := by kernel_rfl
theorem fact18 : (Rows.fnGenerateImportStmtTwoCallsTakeConsecutiveSlotsSpec.vars.all (Tryd.pinned.checked.prog.varReadable ·)) = true := by kernel_rfl
theorem fact19 : (Tryd.f4.resultTypes.all (fun t => Tryd.pinned.checked.prog.readableRec t && decide (t < Tryd.pinned.checked.prog.types.size))) = true := by kernel_rfl
theorem fact20 : ((Rows.fnGenerateImportStmtTwoCallsTakeConsecutiveSlotsRow.ifacesOut == Tryd.f4.resultTypes.toList.any (Tryd.pinned.checked.prog.ifacesRec ·))) = true := by kernel_rfl
theorem fact21 : ((Rows.fnGenerateImportStmtTwoCallsTakeConsecutiveSlotsRow.loopsOut == Tryd.f4.resultTypes.toList.any (Tryd.pinned.checked.prog.loopsFrom ·))) = true := by kernel_rfl
theorem fact22 : ((Rows.fnGenerateImportStmtTwoCallsTakeConsecutiveSlotsRow.plainKeys == Tryd.pinned.checked.prog.plainKeys)) = true := by kernel_rfl
theorem fact23 : (Rows.fnGenerateImportStmtTwoCallsTakeConsecutiveSlotsRow.shortTexts.isNone) = true := by kernel_rfl
theorem fact24 : (Tryd.pinned.checked.prog.stopsHeard) = true := by kernel_rfl
theorem fact25 : (Tryd.pinned.checked.prog.mayEnter) = true := by kernel_rfl
theorem fact26 : ((Rows.fnGenerateImportStmtTwoCallsTakeConsecutiveSlotsRow.lifted == Tryd.pinned.checked.prog.liftsFinal)) = true := by kernel_rfl
theorem fact27 : ((Tryd.pinned.checked.prog.make == some Rows.fnGenerateImportStmtTwoCallsTakeConsecutiveSlotsRow.make)) = true := by kernel_rfl
theorem fact28 : ((Rows.fnGenerateImportStmtTwoCallsTakeConsecutiveSlotsRow.kinds == (if Rows.fnGenerateImportStmtTwoCallsTakeConsecutiveSlotsRow.domain.isEmpty then [] else Tryd.f4.params.toList.map fun t => match Tryd.pinned.checked.prog.underlying t with | some (.int k) => some k | _ => none))) = true := by kernel_rfl
theorem fact29 : ((Rows.fnGenerateImportStmtTwoCallsTakeConsecutiveSlotsRow.pinned == Rows.fnGenerateImportStmtTwoCallsTakeConsecutiveSlotsRow.pinnedBy)) = true := by kernel_rfl
theorem fact30 : ((Rows.fnGenerateImportStmtTwoCallsTakeConsecutiveSlotsRow.veiled == (Tryd.f4.params.toList ++ Rows.fnGenerateImportStmtTwoCallsTakeConsecutiveSlotsSpec.plain.varTypes Tryd.pinned.checked.prog ++ Tryd.f4.resultTypes.toList).any (Tryd.pinned.checked.prog.veiledRec ·))) = true := by kernel_rfl
theorem fact31 : (Rows.fnGenerateImportStmtTwoCallsTakeConsecutiveSlotsRow.veiledFits Tryd.pinned.checked.prog Tryd.f4.params.toList (Tryd.f4.params.toList ++ Rows.fnGenerateImportStmtTwoCallsTakeConsecutiveSlotsSpec.plain.varTypes Tryd.pinned.checked.prog ++ Tryd.f4.resultTypes.toList)) = true := by kernel_rfl
theorem and2 {a b : Bool} (ha : a = true) (hb : b = true) : (a && b) = true := by rw [ha, hb]; rfl
theorem facts : joinedFacts Tryd.pinned.checked.prog 4 Tryd.f4 Rows.fnGenerateImportStmtTwoCallsTakeConsecutiveSlotsSpec Rows.fnGenerateImportStmtTwoCallsTakeConsecutiveSlotsRow = true := (and2 (and2 (and2 (and2 (and2 (and2 (and2 (and2 (and2 (and2 (and2 (and2 (and2 (and2 (and2 (and2 (and2 (and2 (and2 (and2 (and2 (and2 (and2 (and2 (and2 (and2 (and2 (and2 (and2 (and2 (and2 fact0 fact1) fact2) fact3) fact4) fact5) fact6) fact7) fact8) fact9) fact10) fact11) fact12) fact13) fact14) fact15) fact16) fact17) fact18) fact19) fact20) fact21) fact22) fact23) fact24) fact25) fact26) fact27) fact28) fact29) fact30) fact31)
theorem named : Tryd.pinned.checked.prog.funcNamed Rows.fnGenerateImportStmtTwoCallsTakeConsecutiveSlotsRow.func = some 4 := by kernel_rfl
theorem inst : Tryd.f4.isInstance Tryd.pinned.checked.prog Rows.fnGenerateImportStmtTwoCallsTakeConsecutiveSlotsRow.origin Rows.fnGenerateImportStmtTwoCallsTakeConsecutiveSlotsRow.targs := of_decide_eq_true (by kernel_rfl)
theorem wrap : Tryd.f4.isWrapper Tryd.pinned.checked.prog Rows.fnGenerateImportStmtTwoCallsTakeConsecutiveSlotsRow.wrapper Rows.fnGenerateImportStmtTwoCallsTakeConsecutiveSlotsRow.mainSum := by unfold Func.isWrapper; first | (rw [if_pos (by decide +kernel)]; kernel_rfl) | (rw [if_neg (by decide +kernel)]; exact ⟨rfl, rfl⟩)
end Go.Proofs.YtoblkmnhoiodcaaDoor.fnGenerateImportStmtTwoCallsTakeConsecutiveSlots
