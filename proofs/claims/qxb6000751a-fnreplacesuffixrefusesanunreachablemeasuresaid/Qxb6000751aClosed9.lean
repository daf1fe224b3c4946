import Derived.Test.Qxb6000751aHead
namespace Go.Proofs.Qxb6000751a.Por.C9
open Go.ChangeShapes Go.WideShapes Go.ChangeAt Go.RowKit
/-! The form's closed facts for function 9, a theorem a fact. -/
theorem andT {a b : Bool} (h : a = true) (k : b = true) : (a && b) = true := by rw [h, k]; rfl
theorem k0 : (Rows.fnReplaceSuffixRefusesAnUnreachableMeasureRow.wf (OpenSpec.ofChange Rows.fnReplaceSuffixRefusesAnUnreachableMeasureSpec)) = true := by kernel_rfl
theorem k1 : (laidOutB Try.prog) = true := by kernel_rfl
theorem k2 : (mapsRowed Try.prog) = true := by kernel_rfl
theorem k3 : (Try.f9.params.all (Try.prog.readableRec ·)) = true := by kernel_rfl
theorem k4 : (namedTie Try.prog Rows.fnReplaceSuffixRefusesAnUnreachableMeasureRow.named Rows.fnReplaceSuffixRefusesAnUnreachableMeasureSpec.vars) = true := by kernel_rfl
theorem k5 : ((Rows.fnReplaceSuffixRefusesAnUnreachableMeasureRow.stops == [])) = true := by kernel_rfl
theorem k6 : ((Try.prog.stops == [])) = true := by kernel_rfl
theorem k7 : ((Rows.fnReplaceSuffixRefusesAnUnreachableMeasureRow.knobs == [])) = true := by kernel_rfl
theorem k8 : ((Try.prog.stopKnobs == [])) = true := by kernel_rfl
theorem k9 : ((Rows.fnReplaceSuffixRefusesAnUnreachableMeasureRow.inPlace == Try.prog.inPlace 9)) = true := by kernel_rfl
theorem k10 : ((Rows.fnReplaceSuffixRefusesAnUnreachableMeasureRow.unfollowed == Try.prog.unfollowed 9)) = true := by kernel_rfl
theorem k11 : ((Rows.fnReplaceSuffixRefusesAnUnreachableMeasureRow.recurses == Try.prog.recurses 9)) = true := by kernel_rfl
theorem k12 : ((Rows.fnReplaceSuffixRefusesAnUnreachableMeasureRow.named == Try.prog.varsNamed 9)) = true := by kernel_rfl
theorem k13 : ((Rows.fnReplaceSuffixRefusesAnUnreachableMeasureRow.maps == (Try.f9.params.toList ++ Rows.fnReplaceSuffixRefusesAnUnreachableMeasureSpec.plain.varTypes Try.prog).any (Try.prog.mapsRec ·))) = true := by kernel_rfl
theorem k14 : ((Rows.fnReplaceSuffixRefusesAnUnreachableMeasureRow.ifaces == (Try.f9.params.toList ++ Rows.fnReplaceSuffixRefusesAnUnreachableMeasureSpec.plain.varTypes Try.prog).any (Try.prog.ifacesRec ·))) = true := by kernel_rfl
theorem k15 : ((Rows.fnReplaceSuffixRefusesAnUnreachableMeasureRow.mapsOut == Try.prog.mapsAmong Try.f9.resultTypes.toList)) = true := by kernel_rfl
theorem k16 : ((Rows.fnReplaceSuffixRefusesAnUnreachableMeasureRow.loops == (Try.f9.params.toList ++ Rows.fnReplaceSuffixRefusesAnUnreachableMeasureSpec.plain.varTypes Try.prog).any (Try.prog.loopsFrom ·))) = true := by kernel_rfl
theorem k17 : ((Rows.fnReplaceSuffixRefusesAnUnreachableMeasureRow.wideKeys == (Try.f9.params.toList ++ Rows.fnReplaceSuffixRefusesAnUnreachableMeasureSpec.plain.varTypes Try.prog ++ Try.f9.resultTypes.toList).any (Try.prog.wideKeysFrom ·))) = true := by kernel_rfl
theorem k18 : (Rows.fnReplaceSuffixRefusesAnUnreachableMeasureSpec.vars.all (Try.prog.varReadable ·)) = true := by kernel_rfl
theorem k19 : (Try.f9.resultTypes.all (fun t => Try.prog.readableRec t && decide (t < Try.prog.types.size))) = true := by kernel_rfl
theorem k20 : ((Rows.fnReplaceSuffixRefusesAnUnreachableMeasureRow.ifacesOut == Try.f9.resultTypes.toList.any (Try.prog.ifacesRec ·))) = true := by kernel_rfl
theorem k21 : ((Rows.fnReplaceSuffixRefusesAnUnreachableMeasureRow.loopsOut == Try.f9.resultTypes.toList.any (Try.prog.loopsFrom ·))) = true := by kernel_rfl
theorem k22 : ((Rows.fnReplaceSuffixRefusesAnUnreachableMeasureRow.plainKeys == Try.prog.plainKeys)) = true := by kernel_rfl
theorem k23 : (Rows.fnReplaceSuffixRefusesAnUnreachableMeasureRow.shortTexts.isNone) = true := by kernel_rfl
theorem k24 : (Try.prog.stopsHeard) = true := by kernel_rfl
theorem k25 : (Try.prog.mayEnter) = true := mayEnter
theorem k26 : ((Rows.fnReplaceSuffixRefusesAnUnreachableMeasureRow.lifted == Try.prog.liftsFinal)) = true := by rw [liftsFinal]; rfl
theorem k27 : ((Try.prog.make == some Rows.fnReplaceSuffixRefusesAnUnreachableMeasureRow.make)) = true := by rw [make]; rfl
theorem k28 : ((Rows.fnReplaceSuffixRefusesAnUnreachableMeasureRow.kinds == (if Rows.fnReplaceSuffixRefusesAnUnreachableMeasureRow.domain.isEmpty then [] else Try.f9.params.toList.map fun t => match Try.prog.underlying t with | some (.int k) => some k | _ => none))) = true := rfl
theorem k29 : ((Rows.fnReplaceSuffixRefusesAnUnreachableMeasureRow.pinned == Rows.fnReplaceSuffixRefusesAnUnreachableMeasureRow.pinnedBy)) = true := by kernel_rfl
theorem k30 : ((Rows.fnReplaceSuffixRefusesAnUnreachableMeasureRow.veiled == (Try.f9.params.toList ++ Rows.fnReplaceSuffixRefusesAnUnreachableMeasureSpec.plain.varTypes Try.prog ++ Try.f9.resultTypes.toList).any (Try.prog.veiledRec ·))) = true := by kernel_rfl
theorem k31 : (Rows.fnReplaceSuffixRefusesAnUnreachableMeasureRow.veiledFits Try.prog Try.f9.params.toList (Try.f9.params.toList ++ Rows.fnReplaceSuffixRefusesAnUnreachableMeasureSpec.plain.varTypes Try.prog ++ Try.f9.resultTypes.toList)) = true := by kernel_rfl
theorem all : joinedFacts Try.prog 9 Try.f9 Rows.fnReplaceSuffixRefusesAnUnreachableMeasureSpec Rows.fnReplaceSuffixRefusesAnUnreachableMeasureRow = true := by
  unfold joinedFacts
  exact (andT (andT (andT (andT (andT (andT (andT (andT (andT (andT (andT (andT (andT (andT (andT (andT (andT (andT (andT (andT (andT (andT (andT (andT (andT (andT (andT (andT (andT (andT (andT k0 k1) k2) k3) k4) k5) k6) k7) k8) k9) k10) k11) k12) k13) k14) k15) k16) k17) k18) k19) k20) k21) k22) k23) k24) k25) k26) k27) k28) k29) k30) k31)
theorem named : Try.pinned.checked.prog.funcNamed Rows.fnReplaceSuffixRefusesAnUnreachableMeasureRow.func = some 9 := by kernel_rfl
theorem inst : Try.f9.isInstance Try.pinned.checked.prog Rows.fnReplaceSuffixRefusesAnUnreachableMeasureRow.origin Rows.fnReplaceSuffixRefusesAnUnreachableMeasureRow.targs := of_decide_eq_true (by kernel_rfl)
theorem wrap : Try.f9.isWrapper Try.pinned.checked.prog Rows.fnReplaceSuffixRefusesAnUnreachableMeasureRow.wrapper Rows.fnReplaceSuffixRefusesAnUnreachableMeasureRow.mainSum := by
  unfold Func.isWrapper; first | (rw [if_pos (by decide +kernel)]; kernel_rfl) | (rw [if_neg (by decide +kernel)]; exact ⟨rfl, rfl⟩)
end Go.Proofs.Qxb6000751a.Por.C9
