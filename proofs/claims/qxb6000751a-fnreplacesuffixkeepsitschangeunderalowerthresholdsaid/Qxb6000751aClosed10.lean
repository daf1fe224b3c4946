import Derived.Test.Qxb6000751aHead
namespace Go.Proofs.Qxb6000751a.Por.C10
open Go.ChangeShapes Go.WideShapes Go.ChangeAt Go.RowKit
/-! The form's closed facts for function 10, a theorem a fact. -/
theorem andT {a b : Bool} (h : a = true) (k : b = true) : (a && b) = true := by rw [h, k]; rfl
theorem k0 : (Rows.fnReplaceSuffixKeepsItsChangeUnderALowerThresholdRow.wf (OpenSpec.ofChange Rows.fnReplaceSuffixKeepsItsChangeUnderALowerThresholdSpec)) = true := by kernel_rfl
theorem k1 : (laidOutB Try.prog) = true := by kernel_rfl
theorem k2 : (mapsRowed Try.prog) = true := by kernel_rfl
theorem k3 : (Try.f10.params.all (Try.prog.readableRec ·)) = true := by kernel_rfl
theorem k4 : (namedTie Try.prog Rows.fnReplaceSuffixKeepsItsChangeUnderALowerThresholdRow.named Rows.fnReplaceSuffixKeepsItsChangeUnderALowerThresholdSpec.vars) = true := by kernel_rfl
theorem k5 : ((Rows.fnReplaceSuffixKeepsItsChangeUnderALowerThresholdRow.stops == [])) = true := by kernel_rfl
theorem k6 : ((Try.prog.stops == [])) = true := by kernel_rfl
theorem k7 : ((Rows.fnReplaceSuffixKeepsItsChangeUnderALowerThresholdRow.knobs == [])) = true := by kernel_rfl
theorem k8 : ((Try.prog.stopKnobs == [])) = true := by kernel_rfl
theorem k9 : ((Rows.fnReplaceSuffixKeepsItsChangeUnderALowerThresholdRow.inPlace == Try.prog.inPlace 10)) = true := by kernel_rfl
theorem k10 : ((Rows.fnReplaceSuffixKeepsItsChangeUnderALowerThresholdRow.unfollowed == Try.prog.unfollowed 10)) = true := by kernel_rfl
theorem k11 : ((Rows.fnReplaceSuffixKeepsItsChangeUnderALowerThresholdRow.recurses == Try.prog.recurses 10)) = true := by kernel_rfl
theorem k12 : ((Rows.fnReplaceSuffixKeepsItsChangeUnderALowerThresholdRow.named == Try.prog.varsNamed 10)) = true := by kernel_rfl
theorem k13 : ((Rows.fnReplaceSuffixKeepsItsChangeUnderALowerThresholdRow.maps == (Try.f10.params.toList ++ Rows.fnReplaceSuffixKeepsItsChangeUnderALowerThresholdSpec.plain.varTypes Try.prog).any (Try.prog.mapsRec ·))) = true := by kernel_rfl
theorem k14 : ((Rows.fnReplaceSuffixKeepsItsChangeUnderALowerThresholdRow.ifaces == (Try.f10.params.toList ++ Rows.fnReplaceSuffixKeepsItsChangeUnderALowerThresholdSpec.plain.varTypes Try.prog).any (Try.prog.ifacesRec ·))) = true := by kernel_rfl
theorem k15 : ((Rows.fnReplaceSuffixKeepsItsChangeUnderALowerThresholdRow.mapsOut == Try.prog.mapsAmong Try.f10.resultTypes.toList)) = true := by kernel_rfl
theorem k16 : ((Rows.fnReplaceSuffixKeepsItsChangeUnderALowerThresholdRow.loops == (Try.f10.params.toList ++ Rows.fnReplaceSuffixKeepsItsChangeUnderALowerThresholdSpec.plain.varTypes Try.prog).any (Try.prog.loopsFrom ·))) = true := by kernel_rfl
theorem k17 : ((Rows.fnReplaceSuffixKeepsItsChangeUnderALowerThresholdRow.wideKeys == (Try.f10.params.toList ++ Rows.fnReplaceSuffixKeepsItsChangeUnderALowerThresholdSpec.plain.varTypes Try.prog ++ Try.f10.resultTypes.toList).any (Try.prog.wideKeysFrom ·))) = true := by kernel_rfl
theorem k18 : (Rows.fnReplaceSuffixKeepsItsChangeUnderALowerThresholdSpec.vars.all (Try.prog.varReadable ·)) = true := by kernel_rfl
theorem k19 : (Try.f10.resultTypes.all (fun t => Try.prog.readableRec t && decide (t < Try.prog.types.size))) = true := by kernel_rfl
theorem k20 : ((Rows.fnReplaceSuffixKeepsItsChangeUnderALowerThresholdRow.ifacesOut == Try.f10.resultTypes.toList.any (Try.prog.ifacesRec ·))) = true := by kernel_rfl
theorem k21 : ((Rows.fnReplaceSuffixKeepsItsChangeUnderALowerThresholdRow.loopsOut == Try.f10.resultTypes.toList.any (Try.prog.loopsFrom ·))) = true := by kernel_rfl
theorem k22 : ((Rows.fnReplaceSuffixKeepsItsChangeUnderALowerThresholdRow.plainKeys == Try.prog.plainKeys)) = true := by kernel_rfl
theorem k23 : (Rows.fnReplaceSuffixKeepsItsChangeUnderALowerThresholdRow.shortTexts.isNone) = true := by kernel_rfl
theorem k24 : (Try.prog.stopsHeard) = true := by kernel_rfl
theorem k25 : (Try.prog.mayEnter) = true := mayEnter
theorem k26 : ((Rows.fnReplaceSuffixKeepsItsChangeUnderALowerThresholdRow.lifted == Try.prog.liftsFinal)) = true := by rw [liftsFinal]; rfl
theorem k27 : ((Try.prog.make == some Rows.fnReplaceSuffixKeepsItsChangeUnderALowerThresholdRow.make)) = true := by rw [make]; rfl
theorem k28 : ((Rows.fnReplaceSuffixKeepsItsChangeUnderALowerThresholdRow.kinds == (if Rows.fnReplaceSuffixKeepsItsChangeUnderALowerThresholdRow.domain.isEmpty then [] else Try.f10.params.toList.map fun t => match Try.prog.underlying t with | some (.int k) => some k | _ => none))) = true := rfl
theorem k29 : ((Rows.fnReplaceSuffixKeepsItsChangeUnderALowerThresholdRow.pinned == Rows.fnReplaceSuffixKeepsItsChangeUnderALowerThresholdRow.pinnedBy)) = true := by kernel_rfl
theorem k30 : ((Rows.fnReplaceSuffixKeepsItsChangeUnderALowerThresholdRow.veiled == (Try.f10.params.toList ++ Rows.fnReplaceSuffixKeepsItsChangeUnderALowerThresholdSpec.plain.varTypes Try.prog ++ Try.f10.resultTypes.toList).any (Try.prog.veiledRec ·))) = true := by kernel_rfl
theorem k31 : (Rows.fnReplaceSuffixKeepsItsChangeUnderALowerThresholdRow.veiledFits Try.prog Try.f10.params.toList (Try.f10.params.toList ++ Rows.fnReplaceSuffixKeepsItsChangeUnderALowerThresholdSpec.plain.varTypes Try.prog ++ Try.f10.resultTypes.toList)) = true := by kernel_rfl
theorem all : joinedFacts Try.prog 10 Try.f10 Rows.fnReplaceSuffixKeepsItsChangeUnderALowerThresholdSpec Rows.fnReplaceSuffixKeepsItsChangeUnderALowerThresholdRow = true := by
  unfold joinedFacts
  exact (andT (andT (andT (andT (andT (andT (andT (andT (andT (andT (andT (andT (andT (andT (andT (andT (andT (andT (andT (andT (andT (andT (andT (andT (andT (andT (andT (andT (andT (andT (andT k0 k1) k2) k3) k4) k5) k6) k7) k8) k9) k10) k11) k12) k13) k14) k15) k16) k17) k18) k19) k20) k21) k22) k23) k24) k25) k26) k27) k28) k29) k30) k31)
theorem named : Try.pinned.checked.prog.funcNamed Rows.fnReplaceSuffixKeepsItsChangeUnderALowerThresholdRow.func = some 10 := by kernel_rfl
theorem inst : Try.f10.isInstance Try.pinned.checked.prog Rows.fnReplaceSuffixKeepsItsChangeUnderALowerThresholdRow.origin Rows.fnReplaceSuffixKeepsItsChangeUnderALowerThresholdRow.targs := of_decide_eq_true (by kernel_rfl)
theorem wrap : Try.f10.isWrapper Try.pinned.checked.prog Rows.fnReplaceSuffixKeepsItsChangeUnderALowerThresholdRow.wrapper Rows.fnReplaceSuffixKeepsItsChangeUnderALowerThresholdRow.mainSum := by
  unfold Func.isWrapper; first | (rw [if_pos (by decide +kernel)]; kernel_rfl) | (rw [if_neg (by decide +kernel)]; exact ⟨rfl, rfl⟩)
end Go.Proofs.Qxb6000751a.Por.C10
