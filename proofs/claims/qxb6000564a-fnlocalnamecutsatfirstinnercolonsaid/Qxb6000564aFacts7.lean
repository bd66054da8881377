/-
  The closed facts of the row of function 7, one theorem a fact (in one piece the kernel outgrows the memory lid); the three that read the head's words by Head.
-/
import Derived.Test.Qxb6000564aHead
namespace Go.Proofs.Qxb6000564a.Facts7
open Go Head

theorem band {a b : Bool} (ha : a = true) (hb : b = true) : (a && b) = true := by rw [ha, hb]; rfl

theorem k0 : (Rows.fnLocalNameCutsAtFirstInnerColonRow.wf (OpenSpec.ofChange Rows.fnLocalNameCutsAtFirstInnerColonSpec)) = true := by kernel_rfl
theorem k1 : (laidOutB Try.prog) = true := by kernel_rfl
theorem k2 : (mapsRowed Try.prog) = true := by kernel_rfl
theorem k3 : (Try.f7.params.all (Try.prog.readableRec ·)) = true := by kernel_rfl
theorem k4 : (namedTie Try.prog Rows.fnLocalNameCutsAtFirstInnerColonRow.named Rows.fnLocalNameCutsAtFirstInnerColonSpec.vars) = true := by kernel_rfl
theorem k5 : ((Rows.fnLocalNameCutsAtFirstInnerColonRow.stops == [])) = true := by kernel_rfl
theorem k6 : ((Try.prog.stops == [])) = true := by kernel_rfl
theorem k7 : ((Rows.fnLocalNameCutsAtFirstInnerColonRow.knobs == [])) = true := by kernel_rfl
theorem k8 : ((Try.prog.stopKnobs == [])) = true := by kernel_rfl
theorem k9 : ((Rows.fnLocalNameCutsAtFirstInnerColonRow.inPlace == Try.prog.inPlace 7)) = true := by kernel_rfl
theorem k10 : ((Rows.fnLocalNameCutsAtFirstInnerColonRow.unfollowed == Try.prog.unfollowed 7)) = true := by kernel_rfl
theorem k11 : ((Rows.fnLocalNameCutsAtFirstInnerColonRow.recurses == Try.prog.recurses 7)) = true := by kernel_rfl
theorem k12 : ((Rows.fnLocalNameCutsAtFirstInnerColonRow.named == Try.prog.varsNamed 7)) = true := by kernel_rfl
theorem k13 : ((Rows.fnLocalNameCutsAtFirstInnerColonRow.maps == (Try.f7.params.toList ++ Rows.fnLocalNameCutsAtFirstInnerColonSpec.plain.varTypes Try.prog).any (Try.prog.mapsRec ·))) = true := by kernel_rfl
theorem k14 : ((Rows.fnLocalNameCutsAtFirstInnerColonRow.ifaces == (Try.f7.params.toList ++ Rows.fnLocalNameCutsAtFirstInnerColonSpec.plain.varTypes Try.prog).any (Try.prog.ifacesRec ·))) = true := by kernel_rfl
theorem k15 : ((Rows.fnLocalNameCutsAtFirstInnerColonRow.mapsOut == Try.prog.mapsAmong Try.f7.resultTypes.toList)) = true := by kernel_rfl
theorem k16 : ((Rows.fnLocalNameCutsAtFirstInnerColonRow.loops == (Try.f7.params.toList ++ Rows.fnLocalNameCutsAtFirstInnerColonSpec.plain.varTypes Try.prog).any (Try.prog.loopsFrom ·))) = true := by kernel_rfl
theorem k17 : ((Rows.fnLocalNameCutsAtFirstInnerColonRow.wideKeys == (Try.f7.params.toList ++ Rows.fnLocalNameCutsAtFirstInnerColonSpec.plain.varTypes Try.prog ++ Try.f7.resultTypes.toList).any (Try.prog.wideKeysFrom ·))) = true := by kernel_rfl
theorem k18 : (Rows.fnLocalNameCutsAtFirstInnerColonSpec.vars.all (Try.prog.varReadable ·)) = true := by kernel_rfl
theorem k19 : (Try.f7.resultTypes.all (fun t => Try.prog.readableRec t && decide (t < Try.prog.types.size))) = true := by kernel_rfl
theorem k20 : ((Rows.fnLocalNameCutsAtFirstInnerColonRow.ifacesOut == Try.f7.resultTypes.toList.any (Try.prog.ifacesRec ·))) = true := by kernel_rfl
theorem k21 : ((Rows.fnLocalNameCutsAtFirstInnerColonRow.loopsOut == Try.f7.resultTypes.toList.any (Try.prog.loopsFrom ·))) = true := by kernel_rfl
theorem k22 : ((Rows.fnLocalNameCutsAtFirstInnerColonRow.plainKeys == Try.prog.plainKeys)) = true := by kernel_rfl
theorem k23 : (Rows.fnLocalNameCutsAtFirstInnerColonRow.shortTexts.isNone) = true := by kernel_rfl
theorem k24 : (Try.prog.stopsHeard) = true := by kernel_rfl
theorem k25 : (Try.prog.mayEnter) = true := mayEnter
theorem k26 : ((Rows.fnLocalNameCutsAtFirstInnerColonRow.lifted == Try.prog.liftsFinal)) = true := by rw [liftsFinal]; kernel_rfl
theorem k27 : ((Try.prog.make == some Rows.fnLocalNameCutsAtFirstInnerColonRow.make)) = true := by rw [make]; kernel_rfl
theorem k28 : ((Rows.fnLocalNameCutsAtFirstInnerColonRow.kinds == (if Rows.fnLocalNameCutsAtFirstInnerColonRow.domain.isEmpty then [] else Try.f7.params.toList.map fun t => match Try.prog.underlying t with | some (.int k) => some k | _ => none))) = true := by kernel_rfl
theorem k29 : ((Rows.fnLocalNameCutsAtFirstInnerColonRow.pinned == Rows.fnLocalNameCutsAtFirstInnerColonRow.pinnedBy)) = true := by kernel_rfl
theorem k30 : ((Rows.fnLocalNameCutsAtFirstInnerColonRow.veiled == (Try.f7.params.toList ++ Rows.fnLocalNameCutsAtFirstInnerColonSpec.plain.varTypes Try.prog ++ Try.f7.resultTypes.toList).any (Try.prog.veiledRec ·))) = true := by kernel_rfl
theorem k31 : (Rows.fnLocalNameCutsAtFirstInnerColonRow.veiledFits Try.prog Try.f7.params.toList (Try.f7.params.toList ++ Rows.fnLocalNameCutsAtFirstInnerColonSpec.plain.varTypes Try.prog ++ Try.f7.resultTypes.toList)) = true := by kernel_rfl

theorem closed : joinedFacts Try.pinned.checked.prog 7 Try.f7 Rows.fnLocalNameCutsAtFirstInnerColonSpec Rows.fnLocalNameCutsAtFirstInnerColonRow = true := by
  show joinedFacts Try.prog 7 Try.f7 Rows.fnLocalNameCutsAtFirstInnerColonSpec Rows.fnLocalNameCutsAtFirstInnerColonRow = true
  unfold joinedFacts
  exact (band (band (band (band (band (band (band (band (band (band (band (band (band (band (band (band (band (band (band (band (band (band (band (band (band (band (band (band (band (band (band k0 k1) k2) k3) k4) k5) k6) k7) k8) k9) k10) k11) k12) k13) k14) k15) k16) k17) k18) k19) k20) k21) k22) k23) k24) k25) k26) k27) k28) k29) k30) k31)
end Go.Proofs.Qxb6000564a.Facts7
