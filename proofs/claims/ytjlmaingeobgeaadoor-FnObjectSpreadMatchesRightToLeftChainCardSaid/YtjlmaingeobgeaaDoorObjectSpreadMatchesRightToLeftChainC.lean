/- Proved here: the closed facts of the row of FnObjectSpreadMatchesRightToLeftChain, each by the kernel on its own. No condition. -/
import Derived.Test.YtjlmaingeobgeaaDoorRows
import Derived.JoinedOf
import Derived.KernelRfl
namespace Go.Proofs.YtjlmaingeobgeaaDoor.fnObjectSpreadMatchesRightToLeftChain
set_option maxRecDepth 100000
theorem fact0 : (Rows.fnObjectSpreadMatchesRightToLeftChainRow.wf (OpenSpec.ofChange Rows.fnObjectSpreadMatchesRightToLeftChainSpec)) = true := by kernel_rfl
theorem fact1 : (laidOutB Tryd.pinned.checked.prog) = true := by kernel_rfl
theorem fact2 : (mapsRowed Tryd.pinned.checked.prog) = true := by kernel_rfl
theorem fact3 : (Tryd.f5.params.all (Tryd.pinned.checked.prog.readableRec ·)) = true := by kernel_rfl
theorem fact4 : (namedTie Tryd.pinned.checked.prog Rows.fnObjectSpreadMatchesRightToLeftChainRow.named Rows.fnObjectSpreadMatchesRightToLeftChainSpec.vars) = true := by kernel_rfl
theorem fact5 : ((Rows.fnObjectSpreadMatchesRightToLeftChainRow.stops == [])) = true := by kernel_rfl
theorem fact6 : ((Tryd.pinned.checked.prog.stops == [])) = true := by kernel_rfl
theorem fact7 : ((Rows.fnObjectSpreadMatchesRightToLeftChainRow.knobs == [])) = true := by kernel_rfl
theorem fact8 : ((Tryd.pinned.checked.prog.stopKnobs == [])) = true := by kernel_rfl
theorem fact9 : ((Rows.fnObjectSpreadMatchesRightToLeftChainRow.inPlace == Tryd.pinned.checked.prog.inPlace 5)) = true := by kernel_rfl
theorem fact10 : ((Rows.fnObjectSpreadMatchesRightToLeftChainRow.unfollowed == Tryd.pinned.checked.prog.unfollowed 5)) = true := by kernel_rfl
theorem fact11 : ((Rows.fnObjectSpreadMatchesRightToLeftChainRow.recurses == Tryd.pinned.checked.prog.recurses 5)) = true := by kernel_rfl
theorem fact12 : ((Rows.fnObjectSpreadMatchesRightToLeftChainRow.named == Tryd.pinned.checked.prog.varsNamed 5)) = true := by kernel_rfl
theorem fact13 : ((Rows.fnObjectSpreadMatchesRightToLeftChainRow.maps == (Tryd.f5.params.toList ++ Rows.fnObjectSpreadMatchesRightToLeftChainSpec.plain.varTypes Tryd.pinned.checked.prog).any (Tryd.pinned.checked.prog.mapsRec ·))) = true := by kernel_rfl
theorem fact14 : ((Rows.fnObjectSpreadMatchesRightToLeftChainRow.ifaces == (Tryd.f5.params.toList ++ Rows.fnObjectSpreadMatchesRightToLeftChainSpec.plain.varTypes Tryd.pinned.checked.prog).any (Tryd.pinned.checked.prog.ifacesRec ·))) = true := by kernel_rfl
theorem fact15 : ((Rows.fnObjectSpreadMatchesRightToLeftChainRow.mapsOut == Tryd.pinned.checked.prog.mapsAmong Tryd.f5.resultTypes.toList)) = true := by kernel_rfl
theorem fact16 : ((Rows.fnObjectSpreadMatchesRightToLeftChainRow.loops == (Tryd.f5.params.toList ++ Rows.fnObjectSpreadMatchesRightToLeftChainSpec.plain.varTypes Tryd.pinned.checked.prog).any (Tryd.pinned.checked.prog.loopsFrom ·))) = true := by kernel_rfl
theorem fact17 : ((Rows.fnObjectSpreadMatchesRightToLeftChainRow.wideKeys == (Tryd.f5.params.toList ++ Rows.fnObjectSpreadMatchesRightToLeftChainSpec.plain.varTypes Tryd.pinned.checked.prog ++ Tryd.f5.resultTypes.toList).any (Tryd.pinned.checked.prog.wideKeysFrom ·))) = true := by kernel_rfl
theorem fact18 : (Rows.fnObjectSpreadMatchesRightToLeftChainSpec.vars.all (Tryd.pinned.checked.prog.varReadable ·)) = true := by kernel_rfl
theorem fact19 : (Tryd.f5.resultTypes.all (fun t => Tryd.pinned.checked.prog.readableRec t && decide (t < Tryd.pinned.checked.prog.types.size))) = true := by kernel_rfl
theorem fact20 : ((Rows.fnObjectSpreadMatchesRightToLeftChainRow.ifacesOut == Tryd.f5.resultTypes.toList.any (Tryd.pinned.checked.prog.ifacesRec ·))) = true := by kernel_rfl
theorem fact21 : ((Rows.fnObjectSpreadMatchesRightToLeftChainRow.loopsOut == Tryd.f5.resultTypes.toList.any (Tryd.pinned.checked.prog.loopsFrom ·))) = true := by kernel_rfl
theorem fact22 : ((Rows.fnObjectSpreadMatchesRightToLeftChainRow.plainKeys == Tryd.pinned.checked.prog.plainKeys)) = true := by kernel_rfl
theorem fact23 : (Rows.fnObjectSpreadMatchesRightToLeftChainRow.shortTexts.isNone) = true := by kernel_rfl
theorem fact24 : (Tryd.pinned.checked.prog.stopsHeard) = true := by kernel_rfl
theorem fact25 : (Tryd.pinned.checked.prog.mayEnter) = true := by kernel_rfl
theorem fact26 : ((Rows.fnObjectSpreadMatchesRightToLeftChainRow.lifted == Tryd.pinned.checked.prog.liftsFinal)) = true := by kernel_rfl
theorem fact27 : ((Tryd.pinned.checked.prog.make == some Rows.fnObjectSpreadMatchesRightToLeftChainRow.make)) = true := by kernel_rfl
theorem fact28 : ((Rows.fnObjectSpreadMatchesRightToLeftChainRow.kinds == (if Rows.fnObjectSpreadMatchesRightToLeftChainRow.domain.isEmpty then [] else Tryd.f5.params.toList.map fun t => match Tryd.pinned.checked.prog.underlying t with | some (.int k) => some k | _ => none))) = true := by kernel_rfl
theorem fact29 : ((Rows.fnObjectSpreadMatchesRightToLeftChainRow.pinned == Rows.fnObjectSpreadMatchesRightToLeftChainRow.pinnedBy)) = true := by kernel_rfl
theorem fact30 : ((Rows.fnObjectSpreadMatchesRightToLeftChainRow.veiled == (Tryd.f5.params.toList ++ Rows.fnObjectSpreadMatchesRightToLeftChainSpec.plain.varTypes Tryd.pinned.checked.prog ++ Tryd.f5.resultTypes.toList).any (Tryd.pinned.checked.prog.veiledRec ·))) = true := by kernel_rfl
theorem fact31 : (Rows.fnObjectSpreadMatchesRightToLeftChainRow.veiledFits Tryd.pinned.checked.prog Tryd.f5.params.toList (Tryd.f5.params.toList ++ Rows.fnObjectSpreadMatchesRightToLeftChainSpec.plain.varTypes Tryd.pinned.checked.prog ++ Tryd.f5.resultTypes.toList)) = true := by kernel_rfl
theorem and2 {a b : Bool} (ha : a = true) (hb : b = true) : (a && b) = true := by rw [ha, hb]; rfl
theorem facts : joinedFacts Tryd.pinned.checked.prog 5 Tryd.f5 Rows.fnObjectSpreadMatchesRightToLeftChainSpec Rows.fnObjectSpreadMatchesRightToLeftChainRow = true := (and2 (and2 (and2 (and2 (and2 (and2 (and2 (and2 (and2 (and2 (and2 (and2 (and2 (and2 (and2 (and2 (and2 (and2 (and2 (and2 (and2 (and2 (and2 (and2 (and2 (and2 (and2 (and2 (and2 (and2 (and2 fact0 fact1) fact2) fact3) fact4) fact5) fact6) fact7) fact8) fact9) fact10) fact11) fact12) fact13) fact14) fact15) fact16) fact17) fact18) fact19) fact20) fact21) fact22) fact23) fact24) fact25) fact26) fact27) fact28) fact29) fact30) fact31)
theorem named : Tryd.pinned.checked.prog.funcNamed Rows.fnObjectSpreadMatchesRightToLeftChainRow.func = some 5 := by kernel_rfl
theorem inst : Tryd.f5.isInstance Tryd.pinned.checked.prog Rows.fnObjectSpreadMatchesRightToLeftChainRow.origin Rows.fnObjectSpreadMatchesRightToLeftChainRow.targs := of_decide_eq_true (by kernel_rfl)
theorem wrap : Tryd.f5.isWrapper Tryd.pinned.checked.prog Rows.fnObjectSpreadMatchesRightToLeftChainRow.wrapper Rows.fnObjectSpreadMatchesRightToLeftChainRow.mainSum := by unfold Func.isWrapper; first | (rw [if_pos (by decide +kernel)]; kernel_rfl) | (rw [if_neg (by decide +kernel)]; exact ⟨rfl, rfl⟩)
end Go.Proofs.YtjlmaingeobgeaaDoor.fnObjectSpreadMatchesRightToLeftChain
