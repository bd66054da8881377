/-
  The closed facts of the row of function 5, one theorem a fact (in one piece the kernel outgrows the memory lid); the three that read the head's words by Head.
-/
import Derived.Test.Qxb6000831aHead
namespace Go.Proofs.Qxb6000831a.Facts5
open Go Head

theorem band {a b : Bool} (ha : a = true) (hb : b = true) : (a && b) = true := by rw [ha, hb]; rfl

theorem k0 : (Rows.fnEscapeValueRoundTripRow.wf (OpenSpec.ofChange Rows.fnEscapeValueRoundTripSpec)) = true := by kernel_rfl
theorem k1 : (laidOutB Try.prog) = true := by kernel_rfl
theorem k2 : (mapsRowed Try.prog) = true := by kernel_rfl
theorem k3 : (Try.f5.params.all (Try.prog.readableRec ·)) = true := by kernel_rfl
theorem k4 : (namedTie Try.prog Rows.fnEscapeValueRoundTripRow.named Rows.fnEscapeValueRoundTripSpec.vars) = true := by kernel_rfl
theorem k5 : ((Rows.fnEscapeValueRoundTripRow.stops == [])) = true := by kernel_rfl
theorem k6 : ((Try.prog.stops == [])) = true := by kernel_rfl
theorem k7 : ((Rows.fnEscapeValueRoundTripRow.knobs == [])) = true := by kernel_rfl
theorem k8 : ((Try.prog.stopKnobs == [])) = true := by kernel_rfl
theorem k9 : ((Rows.fnEscapeValueRoundTripRow.inPlace == Try.prog.inPlace 5)) = true := by kernel_rfl
theorem k10 : ((Rows.fnEscapeValueRoundTripRow.unfollowed == Try.prog.unfollowed 5)) = true := by kernel_rfl
theorem k11 : ((Rows.fnEscapeValueRoundTripRow.recurses == Try.prog.recurses 5)) = true := by kernel_rfl
theorem k12 : ((Rows.fnEscapeValueRoundTripRow.named == Try.prog.varsNamed 5)) = true := by kernel_rfl
theorem k13 : ((Rows.fnEscapeValueRoundTripRow.maps == (Try.f5.params.toList ++ Rows.fnEscapeValueRoundTripSpec.plain.varTypes Try.prog).any (Try.prog.mapsRec ·))) = true := by kernel_rfl
theorem k14 : ((Rows.fnEscapeValueRoundTripRow.ifaces == (Try.f5.params.toList ++ Rows.fnEscapeValueRoundTripSpec.plain.varTypes Try.prog).any (Try.prog.ifacesRec ·))) = true := by kernel_rfl
theorem k15 : ((Rows.fnEscapeValueRoundTripRow.mapsOut == Try.prog.mapsAmong Try.f5.resultTypes.toList)) = true := by kernel_rfl
theorem k16 : ((Rows.fnEscapeValueRoundTripRow.loops == (Try.f5.params.toList ++ Rows.fnEscapeValueRoundTripSpec.plain.varTypes Try.prog).any (Try.prog.loopsFrom ·))) = true := by kernel_rfl
theorem k17 : ((Rows.fnEscapeValueRoundTripRow.wideKeys == (Try.f5.params.toList ++ Rows.fnEscapeValueRoundTripSpec.plain.varTypes Try.prog ++ Try.f5.resultTypes.toList).any (Try.prog.wideKeysFrom ·))) = true := by kernel_rfl
theorem k18 : (Rows.fnEscapeValueRoundTripSpec.vars.all (Try.prog.varReadable ·)) = true := by kernel_rfl
theorem k19 : (Try.f5.resultTypes.all (fun t => Try.prog.readableRec t && decide (t < Try.prog.types.size))) = true := by kernel_rfl
theorem k20 : ((Rows.fnEscapeValueRoundTripRow.ifacesOut == Try.f5.resultTypes.toList.any (Try.prog.ifacesRec ·))) = true := by kernel_rfl
theorem k21 : ((Rows.fnEscapeValueRoundTripRow.loopsOut == Try.f5.resultTypes.toList.any (Try.prog.loopsFrom ·))) = true := by kernel_rfl
theorem k22 : ((Rows.fnEscapeValueRoundTripRow.plainKeys == Try.prog.plainKeys)) = true := by kernel_rfl
theorem k23 : (Rows.fnEscapeValueRoundTripRow.shortTexts.isNone) = true := by kernel_rfl
theorem k24 : (Try.prog.stopsHeard) = true := by kernel_rfl
theorem k25 : (Try.prog.mayEnter) = true := mayEnter
theorem k26 : ((Rows.fnEscapeValueRoundTripRow.lifted == Try.prog.liftsFinal)) = true := by rw [liftsFinal]; kernel_rfl
theorem k27 : ((Try.prog.make == some Rows.fnEscapeValueRoundTripRow.make)) = true := by rw [make]; kernel_rfl
theorem k28 : ((Rows.fnEscapeValueRoundTripRow.kinds == (if Rows.fnEscapeValueRoundTripRow.domain.isEmpty then [] else Try.f5.params.toList.map fun t => match Try.prog.underlying t with | some (.int k) => some k | _ => none))) = true := by kernel_rfl
theorem k29 : ((Rows.fnEscapeValueRoundTripRow.pinned == Rows.fnEscapeValueRoundTripRow.pinnedBy)) = true := by kernel_rfl
theorem k30 : ((Rows.fnEscapeValueRoundTripRow.veiled == (Try.f5.params.toList ++ Rows.fnEscapeValueRoundTripSpec.plain.varTypes Try.prog ++ Try.f5.resultTypes.toList).any (Try.prog.veiledRec ·))) = true := by kernel_rfl
theorem k31 : (Rows.fnEscapeValueRoundTripRow.veiledFits Try.prog Try.f5.params.toList (Try.f5.params.toList ++ Rows.fnEscapeValueRoundTripSpec.plain.varTypes Try.prog ++ Try.f5.resultTypes.toList)) = true := by kernel_rfl

theorem closed : joinedFacts Try.pinned.checked.prog 5 Try.f5 Rows.fnEscapeValueRoundTripSpec Rows.fnEscapeValueRoundTripRow = true := by
  show joinedFacts Try.prog 5 Try.f5 Rows.fnEscapeValueRoundTripSpec Rows.fnEscapeValueRoundTripRow = true
  unfold joinedFacts
  exact (band (band (band (band (band (band (band (band (band (band (band (band (band (band (band (band (band (band (band (band (band (band (band (band (band (band (band (band (band (band (band k0 k1) k2) k3) k4) k5) k6) k7) k8) k9) k10) k11) k12) k13) k14) k15) k16) k17) k18) k19) k20) k21) k22) k23) k24) k25) k26) k27) k28) k29) k30) k31)
end Go.Proofs.Qxb6000831a.Facts5
