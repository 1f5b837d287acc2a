/- Proved here: the closed facts of the row of FnRemapLocsInJSONComposesAsOneShift, each by the kernel on its own. No condition. -/
import Derived.Test.YtjlmaingeobgeaaDoorRows
import Derived.JoinedOf
import Derived.KernelRfl
namespace Go.Proofs.YtjlmaingeobgeaaDoor.fnRemapLocsInJSONComposesAsOneShift
set_option maxRecDepth 100000
theorem fact0 : (Rows.fnRemapLocsInJSONComposesAsOneShiftRow.wf (OpenSpec.ofChange Rows.fnRemapLocsInJSONComposesAsOneShiftSpec)) = true := by kernel_rfl
theorem fact1 : (laidOutB Tryd.pinned.checked.prog) = true := by kernel_rfl
theorem fact2 : (mapsRowed Tryd.pinned.checked.prog) = true := by kernel_rfl
theorem fact3 : (Tryd.f6.params.all (Tryd.pinned.checked.prog.readableRec ·)) = true := by kernel_rfl
theorem fact4 : (namedTie Tryd.pinned.checked.prog Rows.fnRemapLocsInJSONComposesAsOneShiftRow.named Rows.fnRemapLocsInJSONComposesAsOneShiftSpec.vars) = true := by kernel_rfl
theorem fact5 : ((Rows.fnRemapLocsInJSONComposesAsOneShiftRow.stops == [])) = true := by kernel_rfl
theorem fact6 : ((Tryd.pinned.checked.prog.stops == [])) = true := by kernel_rfl
theorem fact7 : ((Rows.fnRemapLocsInJSONComposesAsOneShiftRow.knobs == [])) = true := by kernel_rfl
theorem fact8 : ((Tryd.pinned.checked.prog.stopKnobs == [])) = true := by kernel_rfl
theorem fact9 : ((Rows.fnRemapLocsInJSONComposesAsOneShiftRow.inPlace == Tryd.pinned.checked.prog.inPlace 6)) = true := by kernel_rfl
theorem fact10 : ((Rows.fnRemapLocsInJSONComposesAsOneShiftRow.unfollowed == Tryd.pinned.checked.prog.unfollowed 6)) = true := by kernel_rfl
theorem fact11 : ((Rows.fnRemapLocsInJSONComposesAsOneShiftRow.recurses == Tryd.pinned.checked.prog.recurses 6)) = true := by kernel_rfl
theorem fact12 : ((Rows.fnRemapLocsInJSONComposesAsOneShiftRow.named == Tryd.pinned.checked.prog.varsNamed 6)) = true := by kernel_rfl
theorem fact13 : ((Rows.fnRemapLocsInJSONComposesAsOneShiftRow.maps == (Tryd.f6.params.toList ++ Rows.fnRemapLocsInJSONComposesAsOneShiftSpec.plain.varTypes Tryd.pinned.checked.prog).any (Tryd.pinned.checked.prog.mapsRec ·))) = true := by kernel_rfl
theorem fact14 : ((Rows.fnRemapLocsInJSONComposesAsOneShiftRow.ifaces == (Tryd.f6.params.toList ++ Rows.fnRemapLocsInJSONComposesAsOneShiftSpec.plain.varTypes Tryd.pinned.checked.prog).any (Tryd.pinned.checked.prog.ifacesRec ·))) = true := by kernel_rfl
theorem fact15 : ((Rows.fnRemapLocsInJSONComposesAsOneShiftRow.mapsOut == Tryd.pinned.checked.prog.mapsAmong Tryd.f6.resultTypes.toList)) = true := by kernel_rfl
theorem fact16 : ((Rows.fnRemapLocsInJSONComposesAsOneShiftRow.loops == (Tryd.f6.params.toList ++ Rows.fnRemapLocsInJSONComposesAsOneShiftSpec.plain.varTypes Tryd.pinned.checked.prog).any (Tryd.pinned.checked.prog.loopsFrom ·))) = true := by kernel_rfl
theorem fact17 : ((Rows.fnRemapLocsInJSONComposesAsOneShiftRow.wideKeys == (Tryd.f6.params.toList ++ Rows.fnRemapLocsInJSONComposesAsOneShiftSpec.plain.varTypes Tryd.pinned.checked.prog ++ Tryd.f6.resultTypes.toList).any (Tryd.pinned.checked.prog.wideKeysFrom ·))) = true := by kernel_rfl
theorem fact18 : (Rows.fnRemapLocsInJSONComposesAsOneShiftSpec.vars.all (Tryd.pinned.checked.prog.varReadable ·)) = true := by kernel_rfl
theorem fact19 : (Tryd.f6.resultTypes.all (fun t => Tryd.pinned.checked.prog.readableRec t && decide (t < Tryd.pinned.checked.prog.types.size))) = true := by kernel_rfl
theorem fact20 : ((Rows.fnRemapLocsInJSONComposesAsOneShiftRow.ifacesOut == Tryd.f6.resultTypes.toList.any (Tryd.pinned.checked.prog.ifacesRec ·))) = true := by kernel_rfl
theorem fact21 : ((Rows.fnRemapLocsInJSONComposesAsOneShiftRow.loopsOut == Tryd.f6.resultTypes.toList.any (Tryd.pinned.checked.prog.loopsFrom ·))) = true := by kernel_rfl
theorem fact22 : ((Rows.fnRemapLocsInJSONComposesAsOneShiftRow.plainKeys == Tryd.pinned.checked.prog.plainKeys)) = true := by kernel_rfl
theorem fact23 : (Rows.fnRemapLocsInJSONComposesAsOneShiftRow.shortTexts.isNone) = true := by kernel_rfl
theorem fact24 : (Tryd.pinned.checked.prog.stopsHeard) = true := by kernel_rfl
theorem fact25 : (Tryd.pinned.checked.prog.mayEnter) = true := by kernel_rfl
theorem fact26 : ((Rows.fnRemapLocsInJSONComposesAsOneShiftRow.lifted == Tryd.pinned.checked.prog.liftsFinal)) = true := by kernel_rfl
theorem fact27 : ((Tryd.pinned.checked.prog.make == some Rows.fnRemapLocsInJSONComposesAsOneShiftRow.make)) = true := by kernel_rfl
theorem fact28 : ((Rows.fnRemapLocsInJSONComposesAsOneShiftRow.kinds == (if Rows.fnRemapLocsInJSONComposesAsOneShiftRow.domain.isEmpty then [] else Tryd.f6.params.toList.map fun t => match Tryd.pinned.checked.prog.underlying t with | some (.int k) => some k | _ => none))) = true := by kernel_rfl
theorem fact29 : ((Rows.fnRemapLocsInJSONComposesAsOneShiftRow.pinned == Rows.fnRemapLocsInJSONComposesAsOneShiftRow.pinnedBy)) = true := by kernel_rfl
theorem fact30 : ((Rows.fnRemapLocsInJSONComposesAsOneShiftRow.veiled == (Tryd.f6.params.toList ++ Rows.fnRemapLocsInJSONComposesAsOneShiftSpec.plain.varTypes Tryd.pinned.checked.prog ++ Tryd.f6.resultTypes.toList).any (Tryd.pinned.checked.prog.veiledRec ·))) = true := by kernel_rfl
theorem fact31 : (Rows.fnRemapLocsInJSONComposesAsOneShiftRow.veiledFits Tryd.pinned.checked.prog Tryd.f6.params.toList (Tryd.f6.params.toList ++ Rows.fnRemapLocsInJSONComposesAsOneShiftSpec.plain.varTypes Tryd.pinned.checked.prog ++ Tryd.f6.resultTypes.toList)) = true := by kernel_rfl
theorem and2 {a b : Bool} (ha : a = true) (hb : b = true) : (a && b) = true := by rw [ha, hb]; rfl
theorem facts : joinedFacts Tryd.pinned.checked.prog 6 Tryd.f6 Rows.fnRemapLocsInJSONComposesAsOneShiftSpec Rows.fnRemapLocsInJSONComposesAsOneShiftRow = true := (and2 (and2 (and2 (and2 (and2 (and2 (and2 (and2 (and2 (and2 (and2 (and2 (and2 (and2 (and2 (and2 (and2 (and2 (and2 (and2 (and2 (and2 (and2 (and2 (and2 (and2 (and2 (and2 (and2 (and2 (and2 fact0 fact1) fact2) fact3) fact4) fact5) fact6) fact7) fact8) fact9) fact10) fact11) fact12) fact13) fact14) fact15) fact16) fact17) fact18) fact19) fact20) fact21) fact22) fact23) fact24) fact25) fact26) fact27) fact28) fact29) fact30) fact31)
theorem named : Tryd.pinned.checked.prog.funcNamed Rows.fnRemapLocsInJSONComposesAsOneShiftRow.func = some 6 := by kernel_rfl
theorem inst : Tryd.f6.isInstance Tryd.pinned.checked.prog Rows.fnRemapLocsInJSONComposesAsOneShiftRow.origin Rows.fnRemapLocsInJSONComposesAsOneShiftRow.targs := of_decide_eq_true (by kernel_rfl)
theorem wrap : Tryd.f6.isWrapper Tryd.pinned.checked.prog Rows.fnRemapLocsInJSONComposesAsOneShiftRow.wrapper Rows.fnRemapLocsInJSONComposesAsOneShiftRow.mainSum := by unfold Func.isWrapper; first | (rw [if_pos (by decide +kernel)]; kernel_rfl) | (rw [if_neg (by decide +kernel)]; exact ⟨rfl, rfl⟩)
end Go.Proofs.YtjlmaingeobgeaaDoor.fnRemapLocsInJSONComposesAsOneShift
