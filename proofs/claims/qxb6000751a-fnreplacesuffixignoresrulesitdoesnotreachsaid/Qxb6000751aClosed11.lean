import Derived.Test.Qxb6000751aHead
namespace Go.Proofs.Qxb6000751a.Por.C11
open Go.ChangeShapes Go.WideShapes Go.ChangeAt Go.RowKit
/-! The form's closed facts for function 11, a theorem a fact. -/
theorem andT {a b : Bool} (h : a = true) (k : b = true) : (a && b) = true := by rw [h, k]; rfl
theorem k0 : (Rows.fnReplaceSuffixIgnoresRulesItDoesNotReachRow.wf (OpenSpec.ofChange Rows.fnReplaceSuffixIgnoresRulesItDoesNotReachSpec)) = true := by kernel_rfl
theorem k1 : (laidOutB Try.prog) = true := by kernel_rfl
theorem k2 : (mapsRowed Try.prog) = true := by kernel_rfl
theorem k3 : (Try.f11.params.all (Try.prog.readableRec ·)) = true := by kernel_rfl
theorem k4 : (namedTie Try.prog Rows.fnReplaceSuffixIgnoresRulesItDoesNotReachRow.named Rows.fnReplaceSuffixIgnoresRulesItDoesNotReachSpec.vars) = true := by kernel_rfl
theorem k5 : ((Rows.fnReplaceSuffixIgnoresRulesItDoesNotReachRow.stops == [])) = true := by kernel_rfl
theorem k6 : ((Try.prog.stops == [])) = true := by kernel_rfl
theorem k7 : ((Rows.fnReplaceSuffixIgnoresRulesItDoesNotReachRow.knobs == [])) = true := by kernel_rfl
theorem k8 : ((Try.prog.stopKnobs == [])) = true := by kernel_rfl
theorem k9 : ((Rows.fnReplaceSuffixIgnoresRulesItDoesNotReachRow.inPlace == Try.prog.inPlace 11)) = true := by kernel_rfl
theorem k10 : ((Rows.fnReplaceSuffixIgnoresRulesItDoesNotReachRow.unfollowed == Try.prog.unfollowed 11)) = true := by kernel_rfl
theorem k11 : ((Rows.fnReplaceSuffixIgnoresRulesItDoesNotReachRow.recurses == Try.prog.recurses 11)) = true := by kernel_rfl
theorem k12 : ((Rows.fnReplaceSuffixIgnoresRulesItDoesNotReachRow.named == Try.prog.varsNamed 11)) = true := by kernel_rfl
theorem k13 : ((Rows.fnReplaceSuffixIgnoresRulesItDoesNotReachRow.maps == (Try.f11.params.toList ++ Rows.fnReplaceSuffixIgnoresRulesItDoesNotReachSpec.plain.varTypes Try.prog).any (Try.prog.mapsRec ·))) = true := by kernel_rfl
theorem k14 : ((Rows.fnReplaceSuffixIgnoresRulesItDoesNotReachRow.ifaces == (Try.f11.params.toList ++ Rows.fnReplaceSuffixIgnoresRulesItDoesNotReachSpec.plain.varTypes Try.prog).any (Try.prog.ifacesRec ·))) = true := by kernel_rfl
theorem k15 : ((Rows.fnReplaceSuffixIgnoresRulesItDoesNotReachRow.mapsOut == Try.prog.mapsAmong Try.f11.resultTypes.toList)) = true := by kernel_rfl
theorem k16 : ((Rows.fnReplaceSuffixIgnoresRulesItDoesNotReachRow.loops == (Try.f11.params.toList ++ Rows.fnReplaceSuffixIgnoresRulesItDoesNotReachSpec.plain.varTypes Try.prog).any (Try.prog.loopsFrom ·))) = true := by kernel_rfl
theorem k17 : ((Rows.fnReplaceSuffixIgnoresRulesItDoesNotReachRow.wideKeys == (Try.f11.params.toList ++ Rows.fnReplaceSuffixIgnoresRulesItDoesNotReachSpec.plain.varTypes Try.prog ++ Try.f11.resultTypes.toList).any (Try.prog.wideKeysFrom ·))) = true := by kernel_rfl
theorem k18 : (Rows.fnReplaceSuffixIgnoresRulesItDoesNotReachSpec.vars.all (Try.prog.varReadable ·)) = true := by kernel_rfl
theorem k19 : (Try.f11.resultTypes.all (fun t => Try.prog.readableRec t && decide (t < Try.prog.types.size))) = true := by kernel_rfl
theorem k20 : ((Rows.fnReplaceSuffixIgnoresRulesItDoesNotReachRow.ifacesOut == Try.f11.resultTypes.toList.any (Try.prog.ifacesRec ·))) = true := by kernel_rfl
theorem k21 : ((Rows.fnReplaceSuffixIgnoresRulesItDoesNotReachRow.loopsOut == Try.f11.resultTypes.toList.any (Try.prog.loopsFrom ·))) = true := by kernel_rfl
theorem k22 : ((Rows.fnReplaceSuffixIgnoresRulesItDoesNotReachRow.plainKeys == Try.prog.plainKeys)) = true := by kernel_rfl
theorem k23 : (Rows.fnReplaceSuffixIgnoresRulesItDoesNotReachRow.shortTexts.isNone) = true := by kernel_rfl
theorem k24 : (Try.prog.stopsHeard) = true := by kernel_rfl
theorem k25 : (Try.prog.mayEnter) = true := mayEnter
theorem k26 : ((Rows.fnReplaceSuffixIgnoresRulesItDoesNotReachRow.lifted == Try.prog.liftsFinal)) = true := by rw [liftsFinal]; rfl
theorem k27 : ((Try.prog.make == some Rows.fnReplaceSuffixIgnoresRulesItDoesNotReachRow.make)) = true := by rw [make]; rfl
theorem k28 : ((Rows.fnReplaceSuffixIgnoresRulesItDoesNotReachRow.kinds == (if Rows.fnReplaceSuffixIgnoresRulesItDoesNotReachRow.domain.isEmpty then [] else Try.f11.params.toList.map fun t => match Try.prog.underlying t with | some (.int k) => some k | _ => none))) = true := rfl
theorem k29 : ((Rows.fnReplaceSuffixIgnoresRulesItDoesNotReachRow.pinned == Rows.fnReplaceSuffixIgnoresRulesItDoesNotReachRow.pinnedBy)) = true := by kernel_rfl
theorem k30 : ((Rows.fnReplaceSuffixIgnoresRulesItDoesNotReachRow.veiled == (Try.f11.params.toList ++ Rows.fnReplaceSuffixIgnoresRulesItDoesNotReachSpec.plain.varTypes Try.prog ++ Try.f11.resultTypes.toList).any (Try.prog.veiledRec ·))) = true := by kernel_rfl
theorem k31 : (Rows.fnReplaceSuffixIgnoresRulesItDoesNotReachRow.veiledFits Try.prog Try.f11.params.toList (Try.f11.params.toList ++ Rows.fnReplaceSuffixIgnoresRulesItDoesNotReachSpec.plain.varTypes Try.prog ++ Try.f11.resultTypes.toList)) = true := by kernel_rfl
theorem all : joinedFacts Try.prog 11 Try.f11 Rows.fnReplaceSuffixIgnoresRulesItDoesNotReachSpec Rows.fnReplaceSuffixIgnoresRulesItDoesNotReachRow = true := by
  unfold joinedFacts
  exact (andT (andT (andT (andT (andT (andT (andT (andT (andT (andT (andT (andT (andT (andT (andT (andT (andT (andT (andT (andT (andT (andT (andT (andT (andT (andT (andT (andT (andT (andT (andT k0 k1) k2) k3) k4) k5) k6) k7) k8) k9) k10) k11) k12) k13) k14) k15) k16) k17) k18) k19) k20) k21) k22) k23) k24) k25) k26) k27) k28) k29) k30) k31)
theorem named : Try.pinned.checked.prog.funcNamed Rows.fnReplaceSuffixIgnoresRulesItDoesNotReachRow.func = some 11 := by kernel_rfl
theorem inst : Try.f11.isInstance Try.pinned.checked.prog Rows.fnReplaceSuffixIgnoresRulesItDoesNotReachRow.origin Rows.fnReplaceSuffixIgnoresRulesItDoesNotReachRow.targs := of_decide_eq_true (by kernel_rfl)
theorem wrap : Try.f11.isWrapper Try.pinned.checked.prog Rows.fnReplaceSuffixIgnoresRulesItDoesNotReachRow.wrapper Rows.fnReplaceSuffixIgnoresRulesItDoesNotReachRow.mainSum := by
  unfold Func.isWrapper; first | (rw [if_pos (by decide +kernel)]; kernel_rfl) | (rw [if_neg (by decide +kernel)]; exact ⟨rfl, rfl⟩)
end Go.Proofs.Qxb6000751a.Por.C11
