/-
  The closed facts of the row of function 7, one theorem a fact (in one piece the kernel outgrows the memory lid); the three that read the head's words by Head.
-/
import Derived.Test.Qxb6600168aHead
namespace Go.Proofs.Qxb6600168a.Facts7
open Go Head

theorem band {a b : Bool} (ha : a = true) (hb : b = true) : (a && b) = true := by rw [ha, hb]; rfl

theorem k0 : (Rows.fnFirstDirAgreesWithCutFlagRow.wf (OpenSpec.ofChange Rows.fnFirstDirAgreesWithCutFlagSpec)) = true := by kernel_rfl
theorem k1 : (laidOutB Try.prog) = true := by kernel_rfl
theorem k2 : (mapsRowed Try.prog) = true := by kernel_rfl
theorem k3 : (Try.f7.params.all (Try.prog.readableRec ·)) = true := by kernel_rfl
theorem k4 : (namedTie Try.prog Rows.fnFirstDirAgreesWithCutFlagRow.named Rows.fnFirstDirAgreesWithCutFlagSpec.vars) = true := by kernel_rfl
theorem k5 : ((Rows.fnFirstDirAgreesWithCutFlagRow.stops == [])) = true := by kernel_rfl
theorem k6 : ((Try.prog.stops == [])) = true := by kernel_rfl
theorem k7 : ((Rows.fnFirstDirAgreesWithCutFlagRow.knobs == [])) = true := by kernel_rfl
theorem k8 : ((Try.prog.stopKnobs == [])) = true := by kernel_rfl
theorem k9 : ((Rows.fnFirstDirAgreesWithCutFlagRow.inPlace == Try.prog.inPlace 7)) = true := by kernel_rfl
theorem k10 : ((Rows.fnFirstDirAgreesWithCutFlagRow.unfollowed == Try.prog.unfollowed 7)) = true := by kernel_rfl
theorem k11 : ((Rows.fnFirstDirAgreesWithCutFlagRow.recurses == Try.prog.recurses 7)) = true := by kernel_rfl
theorem k12 : ((Rows.fnFirstDirAgreesWithCutFlagRow.named == Try.prog.varsNamed 7)) = true := by kernel_rfl
theorem k13 : ((Rows.fnFirstDirAgreesWithCutFlagRow.maps == (Try.f7.params.toList ++ Rows.fnFirstDirAgreesWithCutFlagSpec.plain.varTypes Try.prog).any (Try.prog.mapsRec ·))) = true := by kernel_rfl
theorem k14 : ((Rows.fnFirstDirAgreesWithCutFlagRow.ifaces == (Try.f7.params.toList ++ Rows.fnFirstDirAgreesWithCutFlagSpec.plain.varTypes Try.prog).any (Try.prog.ifacesRec ·))) = true := by kernel_rfl
theorem k15 : ((Rows.fnFirstDirAgreesWithCutFlagRow.mapsOut == Try.prog.mapsAmong Try.f7.resultTypes.toList)) = true := by kernel_rfl
theorem k16 : ((Rows.fnFirstDirAgreesWithCutFlagRow.loops == (Try.f7.params.toList ++ Rows.fnFirstDirAgreesWithCutFlagSpec.plain.varTypes Try.prog).any (Try.prog.loopsFrom ·))) = true := by kernel_rfl
theorem k17 : ((Rows.fnFirstDirAgreesWithCutFlagRow.wideKeys == (Try.f7.params.toList ++ Rows.fnFirstDirAgreesWithCutFlagSpec.plain.varTypes Try.prog ++ Try.f7.resultTypes.toList).any (Try.prog.wideKeysFrom ·))) = true := by kernel_rfl
theorem k18 : (Rows.fnFirstDirAgreesWithCutFlagSpec.vars.all (Try.prog.varReadable ·)) = true := by kernel_rfl
theorem k19 : (Try.f7.resultTypes.all (fun t => Try.prog.readableRec t && decide (t < Try.prog.types.size))) = true := by kernel_rfl
theorem k20 : ((Rows.fnFirstDirAgreesWithCutFlagRow.ifacesOut == Try.f7.resultTypes.toList.any (Try.prog.ifacesRec ·))) = true := by kernel_rfl
theorem k21 : ((Rows.fnFirstDirAgreesWithCutFlagRow.loopsOut == Try.f7.resultTypes.toList.any (Try.prog.loopsFrom ·))) = true := by kernel_rfl
theorem k22 : ((Rows.fnFirstDirAgreesWithCutFlagRow.plainKeys == Try.prog.plainKeys)) = true := by kernel_rfl
theorem k23 : (Rows.fnFirstDirAgreesWithCutFlagRow.shortTexts.isNone) = true := by kernel_rfl
theorem k24 : (Try.prog.stopsHeard) = true := by kernel_rfl
theorem k25 : (Try.prog.mayEnter) = true := mayEnter
theorem k26 : ((Rows.fnFirstDirAgreesWithCutFlagRow.lifted == Try.prog.liftsFinal)) = true := by rw [liftsFinal]; kernel_rfl
theorem k27 : ((Try.prog.make == some Rows.fnFirstDirAgreesWithCutFlagRow.make)) = true := by rw [make]; kernel_rfl
theorem k28 : ((Rows.fnFirstDirAgreesWithCutFlagRow.kinds == (if Rows.fnFirstDirAgreesWithCutFlagRow.domain.isEmpty then [] else Try.f7.params.toList.map fun t => match Try.prog.underlying t with | some (.int k) => some k | _ => none))) = true := by kernel_rfl
theorem k29 : ((Rows.fnFirstDirAgreesWithCutFlagRow.pinned == Rows.fnFirstDirAgreesWithCutFlagRow.pinnedBy)) = true := by kernel_rfl
theorem k30 : ((Rows.fnFirstDirAgreesWithCutFlagRow.veiled == (Try.f7.params.toList ++ Rows.fnFirstDirAgreesWithCutFlagSpec.plain.varTypes Try.prog ++ Try.f7.resultTypes.toList).any (Try.prog.veiledRec ·))) = true := by kernel_rfl
theorem k31 : (Rows.fnFirstDirAgreesWithCutFlagRow.veiledFits Try.prog Try.f7.params.toList (Try.f7.params.toList ++ Rows.fnFirstDirAgreesWithCutFlagSpec.plain.varTypes Try.prog ++ Try.f7.resultTypes.toList)) = true := by kernel_rfl

theorem closed : joinedFacts Try.pinned.checked.prog 7 Try.f7 Rows.fnFirstDirAgreesWithCutFlagSpec Rows.fnFirstDirAgreesWithCutFlagRow = true := by
  show joinedFacts Try.prog 7 Try.f7 Rows.fnFirstDirAgreesWithCutFlagSpec Rows.fnFirstDirAgreesWithCutFlagRow = true
  unfold joinedFacts
  exact (band (band (band (band (band (band (band (band (band (band (band (band (band (band (band (band (band (band (band (band (band (band (band (band (band (band (band (band (band (band (band k0 k1) k2) k3) k4) k5) k6) k7) k8) k9) k10) k11) k12) k13) k14) k15) k16) k17) k18) k19) k20) k21) k22) k23) k24) k25) k26) k27) k28) k29) k30) k31)
end Go.Proofs.Qxb6600168a.Facts7
