/-
  The closed facts of the row of function 8, one theorem a fact (in one piece the kernel outgrows the memory lid); the three that read the head's words by Head.
-/
import Derived.Test.Qxb6000564aHead
namespace Go.Proofs.Qxb6000564a.Facts8
open Go Head

theorem band {a b : Bool} (ha : a = true) (hb : b = true) : (a && b) = true := by rw [ha, hb]; rfl

theorem k0 : (Rows.fnDeclaredFindsPlantedValueRow.wf (OpenSpec.ofChange Rows.fnDeclaredFindsPlantedValueSpec)) = true := by kernel_rfl
theorem k1 : (laidOutB Try.prog) = true := by kernel_rfl
theorem k2 : (mapsRowed Try.prog) = true := by kernel_rfl
theorem k3 : (Try.f8.params.all (Try.prog.readableRec ·)) = true := by kernel_rfl
theorem k4 : (namedTie Try.prog Rows.fnDeclaredFindsPlantedValueRow.named Rows.fnDeclaredFindsPlantedValueSpec.vars) = true := by kernel_rfl
theorem k5 : ((Rows.fnDeclaredFindsPlantedValueRow.stops == [])) = true := by kernel_rfl
theorem k6 : ((Try.prog.stops == [])) = true := by kernel_rfl
theorem k7 : ((Rows.fnDeclaredFindsPlantedValueRow.knobs == [])) = true := by kernel_rfl
theorem k8 : ((Try.prog.stopKnobs == [])) = true := by kernel_rfl
theorem k9 : ((Rows.fnDeclaredFindsPlantedValueRow.inPlace == Try.prog.inPlace 8)) = true := by kernel_rfl
theorem k10 : ((Rows.fnDeclaredFindsPlantedValueRow.unfollowed == Try.prog.unfollowed 8)) = true := by kernel_rfl
theorem k11 : ((Rows.fnDeclaredFindsPlantedValueRow.recurses == Try.prog.recurses 8)) = true := by kernel_rfl
theorem k12 : ((Rows.fnDeclaredFindsPlantedValueRow.named == Try.prog.varsNamed 8)) = true := by kernel_rfl
theorem k13 : ((Rows.fnDeclaredFindsPlantedValueRow.maps == (Try.f8.params.toList ++ Rows.fnDeclaredFindsPlantedValueSpec.plain.varTypes Try.prog).any (Try.prog.mapsRec ·))) = true := by kernel_rfl
theorem k14 : ((Rows.fnDeclaredFindsPlantedValueRow.ifaces == (Try.f8.params.toList ++ Rows.fnDeclaredFindsPlantedValueSpec.plain.varTypes Try.prog).any (Try.prog.ifacesRec ·))) = true := by kernel_rfl
theorem k15 : ((Rows.fnDeclaredFindsPlantedValueRow.mapsOut == Try.prog.mapsAmong Try.f8.resultTypes.toList)) = true := by kernel_rfl
theorem k16 : ((Rows.fnDeclaredFindsPlantedValueRow.loops == (Try.f8.params.toList ++ Rows.fnDeclaredFindsPlantedValueSpec.plain.varTypes Try.prog).any (Try.prog.loopsFrom ·))) = true := by kernel_rfl
theorem k17 : ((Rows.fnDeclaredFindsPlantedValueRow.wideKeys == (Try.f8.params.toList ++ Rows.fnDeclaredFindsPlantedValueSpec.plain.varTypes Try.prog ++ Try.f8.resultTypes.toList).any (Try.prog.wideKeysFrom ·))) = true := by kernel_rfl
theorem k18 : (Rows.fnDeclaredFindsPlantedValueSpec.vars.all (Try.prog.varReadable ·)) = true := by kernel_rfl
theorem k19 : (Try.f8.resultTypes.all (fun t => Try.prog.readableRec t && decide (t < Try.prog.types.size))) = true := by kernel_rfl
theorem k20 : ((Rows.fnDeclaredFindsPlantedValueRow.ifacesOut == Try.f8.resultTypes.toList.any (Try.prog.ifacesRec ·))) = true := by kernel_rfl
theorem k21 : ((Rows.fnDeclaredFindsPlantedValueRow.loopsOut == Try.f8.resultTypes.toList.any (Try.prog.loopsFrom ·))) = true := by kernel_rfl
theorem k22 : ((Rows.fnDeclaredFindsPlantedValueRow.plainKeys == Try.prog.plainKeys)) = true := by kernel_rfl
theorem k23 : (Rows.fnDeclaredFindsPlantedValueRow.shortTexts.isNone) = true := by kernel_rfl
theorem k24 : (Try.prog.stopsHeard) = true := by kernel_rfl
theorem k25 : (Try.prog.mayEnter) = true := mayEnter
theorem k26 : ((Rows.fnDeclaredFindsPlantedValueRow.lifted == Try.prog.liftsFinal)) = true := by rw [liftsFinal]; kernel_rfl
theorem k27 : ((Try.prog.make == some Rows.fnDeclaredFindsPlantedValueRow.make)) = true := by rw [make]; kernel_rfl
theorem k28 : ((Rows.fnDeclaredFindsPlantedValueRow.kinds == (if Rows.fnDeclaredFindsPlantedValueRow.domain.isEmpty then [] else Try.f8.params.toList.map fun t => match Try.prog.underlying t with | some (.int k) => some k | _ => none))) = true := by kernel_rfl
theorem k29 : ((Rows.fnDeclaredFindsPlantedValueRow.pinned == Rows.fnDeclaredFindsPlantedValueRow.pinnedBy)) = true := by kernel_rfl
theorem k30 : ((Rows.fnDeclaredFindsPlantedValueRow.veiled == (Try.f8.params.toList ++ Rows.fnDeclaredFindsPlantedValueSpec.plain.varTypes Try.prog ++ Try.f8.resultTypes.toList).any (Try.prog.veiledRec ·))) = true := by kernel_rfl
theorem k31 : (Rows.fnDeclaredFindsPlantedValueRow.veiledFits Try.prog Try.f8.params.toList (Try.f8.params.toList ++ Rows.fnDeclaredFindsPlantedValueSpec.plain.varTypes Try.prog ++ Try.f8.resultTypes.toList)) = true := by kernel_rfl

theorem closed : joinedFacts Try.pinned.checked.prog 8 Try.f8 Rows.fnDeclaredFindsPlantedValueSpec Rows.fnDeclaredFindsPlantedValueRow = true := by
  show joinedFacts Try.prog 8 Try.f8 Rows.fnDeclaredFindsPlantedValueSpec Rows.fnDeclaredFindsPlantedValueRow = true
  unfold joinedFacts
  exact (band (band (band (band (band (band (band (band (band (band (band (band (band (band (band (band (band (band (band (band (band (band (band (band (band (band (band (band (band (band (band k0 k1) k2) k3) k4) k5) k6) k7) k8) k9) k10) k11) k12) k13) k14) k15) k16) k17) k18) k19) k20) k21) k22) k23) k24) k25) k26) k27) k28) k29) k30) k31)
end Go.Proofs.Qxb6000564a.Facts8
