/-
  The closed facts of the row of function 3, one theorem a fact (in one piece the kernel outgrows the memory lid); the three that read the head's words by Head.
-/
import Derived.Test.Qxb6000831aHead
namespace Go.Proofs.Qxb6000831a.Facts3
open Go Head

theorem band {a b : Bool} (ha : a = true) (hb : b = true) : (a && b) = true := by rw [ha, hb]; rfl

theorem k0 : (Rows.fnKerberosNameMatchesModelRow.wf (OpenSpec.ofChange Rows.fnKerberosNameMatchesModelSpec)) = true := by kernel_rfl
theorem k1 : (laidOutB Try.prog) = true := by kernel_rfl
theorem k2 : (mapsRowed Try.prog) = true := by kernel_rfl
theorem k3 : (Try.f3.params.all (Try.prog.readableRec ·)) = true := by kernel_rfl
theorem k4 : (namedTie Try.prog Rows.fnKerberosNameMatchesModelRow.named Rows.fnKerberosNameMatchesModelSpec.vars) = true := by kernel_rfl
theorem k5 : ((Rows.fnKerberosNameMatchesModelRow.stops == [])) = true := by kernel_rfl
theorem k6 : ((Try.prog.stops == [])) = true := by kernel_rfl
theorem k7 : ((Rows.fnKerberosNameMatchesModelRow.knobs == [])) = true := by kernel_rfl
theorem k8 : ((Try.prog.stopKnobs == [])) = true := by kernel_rfl
theorem k9 : ((Rows.fnKerberosNameMatchesModelRow.inPlace == Try.prog.inPlace 3)) = true := by kernel_rfl
theorem k10 : ((Rows.fnKerberosNameMatchesModelRow.unfollowed == Try.prog.unfollowed 3)) = true := by kernel_rfl
theorem k11 : ((Rows.fnKerberosNameMatchesModelRow.recurses == Try.prog.recurses 3)) = true := by kernel_rfl
theorem k12 : ((Rows.fnKerberosNameMatchesModelRow.named == Try.prog.varsNamed 3)) = true := by kernel_rfl
theorem k13 : ((Rows.fnKerberosNameMatchesModelRow.maps == (Try.f3.params.toList ++ Rows.fnKerberosNameMatchesModelSpec.plain.varTypes Try.prog).any (Try.prog.mapsRec ·))) = true := by kernel_rfl
theorem k14 : ((Rows.fnKerberosNameMatchesModelRow.ifaces == (Try.f3.params.toList ++ Rows.fnKerberosNameMatchesModelSpec.plain.varTypes Try.prog).any (Try.prog.ifacesRec ·))) = true := by kernel_rfl
theorem k15 : ((Rows.fnKerberosNameMatchesModelRow.mapsOut == Try.prog.mapsAmong Try.f3.resultTypes.toList)) = true := by kernel_rfl
theorem k16 : ((Rows.fnKerberosNameMatchesModelRow.loops == (Try.f3.params.toList ++ Rows.fnKerberosNameMatchesModelSpec.plain.varTypes Try.prog).any (Try.prog.loopsFrom ·))) = true := by kernel_rfl
theorem k17 : ((Rows.fnKerberosNameMatchesModelRow.wideKeys == (Try.f3.params.toList ++ Rows.fnKerberosNameMatchesModelSpec.plain.varTypes Try.prog ++ Try.f3.resultTypes.toList).any (Try.prog.wideKeysFrom ·))) = true := by kernel_rfl
theorem k18 : (Rows.fnKerberosNameMatchesModelSpec.vars.all (Try.prog.varReadable ·)) = true := by kernel_rfl
theorem k19 : (Try.f3.resultTypes.all (fun t => Try.prog.readableRec t && decide (t < Try.prog.types.size))) = true := by kernel_rfl
theorem k20 : ((Rows.fnKerberosNameMatchesModelRow.ifacesOut == Try.f3.resultTypes.toList.any (Try.prog.ifacesRec ·))) = true := by kernel_rfl
theorem k21 : ((Rows.fnKerberosNameMatchesModelRow.loopsOut == Try.f3.resultTypes.toList.any (Try.prog.loopsFrom ·))) = true := by kernel_rfl
theorem k22 : ((Rows.fnKerberosNameMatchesModelRow.plainKeys == Try.prog.plainKeys)) = true := by kernel_rfl
theorem k23 : (Rows.fnKerberosNameMatchesModelRow.shortTexts.isNone) = true := by kernel_rfl
theorem k24 : (Try.prog.stopsHeard) = true := by kernel_rfl
theorem k25 : (Try.prog.mayEnter) = true := mayEnter
theorem k26 : ((Rows.fnKerberosNameMatchesModelRow.lifted == Try.prog.liftsFinal)) = true := by rw [liftsFinal]; kernel_rfl
theorem k27 : ((Try.prog.make == some Rows.fnKerberosNameMatchesModelRow.make)) = true := by rw [make]; kernel_rfl
theorem k28 : ((Rows.fnKerberosNameMatchesModelRow.kinds == (if Rows.fnKerberosNameMatchesModelRow.domain.isEmpty then [] else Try.f3.params.toList.map fun t => match Try.prog.underlying t with | some (.int k) => some k | _ => none))) = true := by kernel_rfl
theorem k29 : ((Rows.fnKerberosNameMatchesModelRow.pinned == Rows.fnKerberosNameMatchesModelRow.pinnedBy)) = true := by kernel_rfl
theorem k30 : ((Rows.fnKerberosNameMatchesModelRow.veiled == (Try.f3.params.toList ++ Rows.fnKerberosNameMatchesModelSpec.plain.varTypes Try.prog ++ Try.f3.resultTypes.toList).any (Try.prog.veiledRec ·))) = true := by kernel_rfl
theorem k31 : (Rows.fnKerberosNameMatchesModelRow.veiledFits Try.prog Try.f3.params.toList (Try.f3.params.toList ++ Rows.fnKerberosNameMatchesModelSpec.plain.varTypes Try.prog ++ Try.f3.resultTypes.toList)) = true := by kernel_rfl

theorem closed : joinedFacts Try.pinned.checked.prog 3 Try.f3 Rows.fnKerberosNameMatchesModelSpec Rows.fnKerberosNameMatchesModelRow = true := by
  show joinedFacts Try.prog 3 Try.f3 Rows.fnKerberosNameMatchesModelSpec Rows.fnKerberosNameMatchesModelRow = true
  unfold joinedFacts
  exact (band (band (band (band (band (band (band (band (band (band (band (band (band (band (band (band (band (band (band (band (band (band (band (band (band (band (band (band (band (band (band k0 k1) k2) k3) k4) k5) k6) k7) k8) k9) k10) k11) k12) k13) k14) k15) k16) k17) k18) k19) k20) k21) k22) k23) k24) k25) k26) k27) k28) k29) k30) k31)
end Go.Proofs.Qxb6000831a.Facts3
