/- Proved here: the closed facts of the row of FnRemapLocsInJSONShiftsByOpeningQuote, each by the kernel on its own. No condition. -/
import Derived.Test.YtjlmaingeobgeaaDoorRows
import Derived.JoinedOf
import Derived.KernelRfl
namespace Go.Proofs.YtjlmaingeobgeaaDoor.fnRemapLocsInJSONShiftsByOpeningQuote
set_option maxRecDepth 100000
theorem fact0 : (Rows.fnRemapLocsInJSONShiftsByOpeningQuoteRow.wf (OpenSpec.ofChange Rows.fnRemapLocsInJSONShiftsByOpeningQuoteSpec)) = true := by kernel_rfl
theorem fact1 : (laidOutB Tryd.pinned.checked.prog) = true := by kernel_rfl
theorem fact2 : (mapsRowed Tryd.pinned.checked.prog) = true := by kernel_rfl
theorem fact3 : (Tryd.f7.params.all (Tryd.pinned.checked.prog.readableRec ·)) = true := by kernel_rfl
theorem fact4 : (namedTie Tryd.pinned.checked.prog Rows.fnRemapLocsInJSONShiftsByOpeningQuoteRow.named Rows.fnRemapLocsInJSONShiftsByOpeningQuoteSpec.vars) = true := by kernel_rfl
theorem fact5 : ((Rows.fnRemapLocsInJSONShiftsByOpeningQuoteRow.stops == [])) = true := by kernel_rfl
theorem fact6 : ((Tryd.pinned.checked.prog.stops == [])) = true := by kernel_rfl
theorem fact7 : ((Rows.fnRemapLocsInJSONShiftsByOpeningQuoteRow.knobs == [])) = true := by kernel_rfl
theorem fact8 : ((Tryd.pinned.checked.prog.stopKnobs == [])) = true := by kernel_rfl
theorem fact9 : ((Rows.fnRemapLocsInJSONShiftsByOpeningQuoteRow.inPlace == Tryd.pinned.checked.prog.inPlace 7)) = true := by kernel_rfl
theorem fact10 : ((Rows.fnRemapLocsInJSONShiftsByOpeningQuoteRow.unfollowed == Tryd.pinned.checked.prog.unfollowed 7)) = true := by kernel_rfl
theorem fact11 : ((Rows.fnRemapLocsInJSONShiftsByOpeningQuoteRow.recurses == Tryd.pinned.checked.prog.recurses 7)) = true := by kernel_rfl
theorem fact12 : ((Rows.fnRemapLocsInJSONShiftsByOpeningQuoteRow.named == Tryd.pinned.checked.prog.varsNamed 7)) = true := by kernel_rfl
theorem fact13 : ((Rows.fnRemapLocsInJSONShiftsByOpeningQuoteRow.maps == (Tryd.f7.params.toList ++ Rows.fnRemapLocsInJSONShiftsByOpeningQuoteSpec.plain.varTypes Tryd.pinned.checked.prog).any (Tryd.pinned.checked.prog.mapsRec ·))) = true := by kernel_rfl
theorem fact14 : ((Rows.fnRemapLocsInJSONShiftsByOpeningQuoteRow.ifaces == (Tryd.f7.params.toList ++ Rows.fnRemapLocsInJSONShiftsByOpeningQuoteSpec.plain.varTypes Tryd.pinned.checked.prog).any (Tryd.pinned.checked.prog.ifacesRec ·))) = true := by kernel_rfl
theorem fact15 : ((Rows.fnRemapLocsInJSONShiftsByOpeningQuoteRow.mapsOut == Tryd.pinned.checked.prog.mapsAmong Tryd.f7.resultTypes.toList)) = true := by kernel_rfl
theorem fact16 : ((Rows.fnRemapLocsInJSONShiftsByOpeningQuoteRow.loops == (Tryd.f7.params.toList ++ Rows.fnRemapLocsInJSONShiftsByOpeningQuoteSpec.plain.varTypes Tryd.pinned.checked.prog).any (Tryd.pinned.checked.prog.loopsFrom ·))) = true := by kernel_rfl
theorem fact17 : ((Rows.fnRemapLocsInJSONShiftsByOpeningQuoteRow.wideKeys == (Tryd.f7.params.toList ++ Rows.fnRemapLocsInJSONShiftsByOpeningQuoteSpec.plain.varTypes Tryd.pinned.checked.prog ++ Tryd.f7.resultTypes.toList).any (Tryd.pinned.checked.prog.wideKeysFrom ·))) = true := by kernel_rfl
theorem fact18 : (Rows.fnRemapLocsInJSONShiftsByOpeningQuoteSpec.vars.all (Tryd.pinned.checked.prog.varReadable ·)) = true := by kernel_rfl
theorem fact19 : (Tryd.f7.resultTypes.all (fun t => Tryd.pinned.checked.prog.readableRec t && decide (t < Tryd.pinned.checked.prog.types.size))) = true := by kernel_rfl
theorem fact20 : ((Rows.fnRemapLocsInJSONShiftsByOpeningQuoteRow.ifacesOut == Tryd.f7.resultTypes.toList.any (Tryd.pinned.checked.prog.ifacesRec ·))) = true := by kernel_rfl
theorem fact21 : ((Rows.fnRemapLocsInJSONShiftsByOpeningQuoteRow.loopsOut == Tryd.f7.resultTypes.toList.any (Tryd.pinned.checked.prog.loopsFrom ·))) = true := by kernel_rfl
theorem fact22 : ((Rows.fnRemapLocsInJSONShiftsByOpeningQuoteRow.plainKeys == Tryd.pinned.checked.prog.plainKeys)) = true := by kernel_rfl
theorem fact23 : (Rows.fnRemapLocsInJSONShiftsByOpeningQuoteRow.shortTexts.isNone) = true := by kernel_rfl
theorem fact24 : (Tryd.pinned.checked.prog.stopsHeard) = true := by kernel_rfl
theorem fact25 : (Tryd.pinned.checked.prog.mayEnter) = true := by kernel_rfl
theorem fact26 : ((Rows.fnRemapLocsInJSONShiftsByOpeningQuoteRow.lifted == Tryd.pinned.checked.prog.liftsFinal)) = true := by kernel_rfl
theorem fact27 : ((Tryd.pinned.checked.prog.make == some Rows.fnRemapLocsInJSONShiftsByOpeningQuoteRow.make)) = true := by kernel_rfl
theorem fact28 : ((Rows.fnRemapLocsInJSONShiftsByOpeningQuoteRow.kinds == (if Rows.fnRemapLocsInJSONShiftsByOpeningQuoteRow.domain.isEmpty then [] else Tryd.f7.params.toList.map fun t => match Tryd.pinned.checked.prog.underlying t with | some (.int k) => some k | _ => none))) = true := by kernel_rfl
theorem fact29 : ((Rows.fnRemapLocsInJSONShiftsByOpeningQuoteRow.pinned == Rows.fnRemapLocsInJSONShiftsByOpeningQuoteRow.pinnedBy)) = true := by kernel_rfl
theorem fact30 : ((Rows.fnRemapLocsInJSONShiftsByOpeningQuoteRow.veiled == (Tryd.f7.params.toList ++ Rows.fnRemapLocsInJSONShiftsByOpeningQuoteSpec.plain.varTypes Tryd.pinned.checked.prog ++ Tryd.f7.resultTypes.toList).any (Tryd.pinned.checked.prog.veiledRec ·))) = true := by kernel_rfl
theorem fact31 : (Rows.fnRemapLocsInJSONShiftsByOpeningQuoteRow.veiledFits Tryd.pinned.checked.prog Tryd.f7.params.toList (Tryd.f7.params.toList ++ Rows.fnRemapLocsInJSONShiftsByOpeningQuoteSpec.plain.varTypes Tryd.pinned.checked.prog ++ Tryd.f7.resultTypes.toList)) = true := by kernel_rfl
theorem and2 {a b : Bool} (ha : a = true) (hb : b = true) : (a && b) = true := by rw [ha, hb]; rfl
theorem facts : joinedFacts Tryd.pinned.checked.prog 7 Tryd.f7 Rows.fnRemapLocsInJSONShiftsByOpeningQuoteSpec Rows.fnRemapLocsInJSONShiftsByOpeningQuoteRow = true := (and2 (and2 (and2 (and2 (and2 (and2 (and2 (and2 (and2 (and2 (and2 (and2 (and2 (and2 (and2 (and2 (and2 (and2 (and2 (and2 (and2 (and2 (and2 (and2 (and2 (and2 (and2 (and2 (and2 (and2 (and2 fact0 fact1) fact2) fact3) fact4) fact5) fact6) fact7) fact8) fact9) fact10) fact11) fact12) fact13) fact14) fact15) fact16) fact17) fact18) fact19) fact20) fact21) fact22) fact23) fact24) fact25) fact26) fact27) fact28) fact29) fact30) fact31)
theorem named : Tryd.pinned.checked.prog.funcNamed Rows.fnRemapLocsInJSONShiftsByOpeningQuoteRow.func = some 7 := by kernel_rfl
theorem inst : Tryd.f7.isInstance Tryd.pinned.checked.prog Rows.fnRemapLocsInJSONShiftsByOpeningQuoteRow.origin Rows.fnRemapLocsInJSONShiftsByOpeningQuoteRow.targs := of_decide_eq_true (by kernel_rfl)
theorem wrap : Tryd.f7.isWrapper Tryd.pinned.checked.prog Rows.fnRemapLocsInJSONShiftsByOpeningQuoteRow.wrapper Rows.fnRemapLocsInJSONShiftsByOpeningQuoteRow.mainSum := by unfold Func.isWrapper; first | (rw [if_pos (by decide +kernel)]; kernel_rfl) | (rw [if_neg (by decide +kernel)]; exact ⟨rfl, rfl⟩)
end Go.Proofs.YtjlmaingeobgeaaDoor.fnRemapLocsInJSONShiftsByOpeningQuote
