/-
  No cell of these rows narrows 'for every input' (looked for: loops, veiled, ifaces, maps, wideKeys, modest, calm, conditions, laid).
  DERIVED. THE GIVEN ROWS OF THIS SEAT. 9 by the template 'for every input the law returns true; each argument reads behind the call as it read before'; 0 by the template 'total and deterministic' (their statements: Qxb6600168aTotals.lean).
  GIVEN WITH THE SEED: the statements are not yours to turn. If you find one false, say at which input.
  Laid BY PROGRAM, IN A SANDBOX (cutbox-rows.mjs): the forced cells as the released guide's own fill.sh prints them over the translation c04cd53b6297a090… (all of the seat's roots in one cut). By AI agents, Wed Nov 11 2026. No macro, syntax, notation, axiom, sorry.
-/
import Derived.Test.Qxb6600168aChecked
import GoSem.Claim
import GoSem.ClaimJoined
import GoSem.ClaimMapViews
import Derived.JoinedTies
import Derived.KernelRfl
namespace Go.Proofs.Qxb6600168a
/- THE CELL 'sum', in the pinned program and in every row, IS THE sha256 OF THE DUMP (.gsa) THAT Qxb6600168aProg.lean LOADS. Nothing in Lean hashes anything: it is a label: what it is worth is what the hold of that sum in a sandbox is worth. -/
noncomputable def Try.pinned : Pinned := { name := "qxb6600168a", sum := "c04cd53b6297a090ac7808f445642b92a68a867412957bd5e16f5f6eed26a328", checked := Try.checked }
namespace Rows
def none {H : Type} : Left H := { results := [], args := [] }

/-- 'zzlaws_internal_gocmd_b1.FnCutFlagRoundTrip': WHATEVER THE INPUT: true; the input reads as it did. -/
def fnCutFlagRoundTripSpec : ChangeSpec := { name := "fnCutFlagRoundTrip", fn := fun _ => fun
  | [d1, d2] => { results := [.lit (.bool true)], args := [d1, d2] }
  | _ => none }
def fnCutFlagRoundTripRow : OpenClaim := { program := "qxb6600168a", sum := "c04cd53b6297a090ac7808f445642b92a68a867412957bd5e16f5f6eed26a328", func := "roux.example/roux/zzlaws_internal_gocmd_b1.FnCutFlagRoundTrip", spec := "fnCutFlagRoundTrip", inPlace := ["internal/bytealg.IndexByteString", "internal/bytealg.IndexString"], named := ["internal/bytealg.MaxLen"], apart := false }
def FnCutFlagRoundTripSaid : Prop := fnCutFlagRoundTripRow.holds Try.pinned (OpenSpec.ofChange fnCutFlagRoundTripSpec)

/-- ITS FALSE NEIGHBOUR: 'it returns false'. Refute it at one input. -/
def fnCutFlagRoundTripWrong : ChangeSpec := { name := "fnCutFlagRoundTrip", fn := fun _ => fun
  | [d1, d2] => { results := [.lit (.bool false)], args := [d1, d2] }
  | _ => none }
def FnCutFlagRoundTripWrongFalsely : Prop := fnCutFlagRoundTripRow.holds Try.pinned (OpenSpec.ofChange fnCutFlagRoundTripWrong)

/-- 'zzlaws_internal_gocmd_b1.FnCutFlagRebuildsItsInput': WHATEVER THE INPUT: true; the input reads as it did. -/
def fnCutFlagRebuildsItsInputSpec : ChangeSpec := { name := "fnCutFlagRebuildsItsInput", fn := fun _ => fun
  | [d] => { results := [.lit (.bool true)], args := [d] }
  | _ => none }
def fnCutFlagRebuildsItsInputRow : OpenClaim := { program := "qxb6600168a", sum := "c04cd53b6297a090ac7808f445642b92a68a867412957bd5e16f5f6eed26a328", func := "roux.example/roux/zzlaws_internal_gocmd_b1.FnCutFlagRebuildsItsInput", spec := "fnCutFlagRebuildsItsInput", inPlace := ["internal/bytealg.IndexByteString", "internal/bytealg.IndexString"], named := ["internal/bytealg.MaxLen"], apart := false }
def FnCutFlagRebuildsItsInputSaid : Prop := fnCutFlagRebuildsItsInputRow.holds Try.pinned (OpenSpec.ofChange fnCutFlagRebuildsItsInputSpec)

/-- ITS FALSE NEIGHBOUR: 'it returns false'. Refute it at one input. -/
def fnCutFlagRebuildsItsInputWrong : ChangeSpec := { name := "fnCutFlagRebuildsItsInput", fn := fun _ => fun
  | [d] => { results := [.lit (.bool false)], args := [d] }
  | _ => none }
def FnCutFlagRebuildsItsInputWrongFalsely : Prop := fnCutFlagRebuildsItsInputRow.holds Try.pinned (OpenSpec.ofChange fnCutFlagRebuildsItsInputWrong)

/-- 'zzlaws_internal_gocmd_b1.FnCutFlagDashesAgree': WHATEVER THE INPUT: true; the input reads as it did. -/
def fnCutFlagDashesAgreeSpec : ChangeSpec := { name := "fnCutFlagDashesAgree", fn := fun _ => fun
  | [d] => { results := [.lit (.bool true)], args := [d] }
  | _ => none }
def fnCutFlagDashesAgreeRow : OpenClaim := { program := "qxb6600168a", sum := "c04cd53b6297a090ac7808f445642b92a68a867412957bd5e16f5f6eed26a328", func := "roux.example/roux/zzlaws_internal_gocmd_b1.FnCutFlagDashesAgree", spec := "fnCutFlagDashesAgree", inPlace := ["internal/bytealg.IndexByteString", "internal/bytealg.IndexString"], named := ["internal/bytealg.MaxLen"], apart := false }
def FnCutFlagDashesAgreeSaid : Prop := fnCutFlagDashesAgreeRow.holds Try.pinned (OpenSpec.ofChange fnCutFlagDashesAgreeSpec)

/-- ITS FALSE NEIGHBOUR: 'it returns false'. Refute it at one input. -/
def fnCutFlagDashesAgreeWrong : ChangeSpec := { name := "fnCutFlagDashesAgree", fn := fun _ => fun
  | [d] => { results := [.lit (.bool false)], args := [d] }
  | _ => none }
def FnCutFlagDashesAgreeWrongFalsely : Prop := fnCutFlagDashesAgreeRow.holds Try.pinned (OpenSpec.ofChange fnCutFlagDashesAgreeWrong)

/-- 'zzlaws_internal_gocmd_b1.FnFirstDirRoundTrip': WHATEVER THE INPUT: true; the input reads as it did. -/
def fnFirstDirRoundTripSpec : ChangeSpec := { name := "fnFirstDirRoundTrip", fn := fun _ => fun
  | [d1, d2] => { results := [.lit (.bool true)], args := [d1, d2] }
  | _ => none }
def fnFirstDirRoundTripRow : OpenClaim := { program := "qxb6600168a", sum := "c04cd53b6297a090ac7808f445642b92a68a867412957bd5e16f5f6eed26a328", func := "roux.example/roux/zzlaws_internal_gocmd_b1.FnFirstDirRoundTrip", spec := "fnFirstDirRoundTrip", inPlace := ["internal/bytealg.IndexByteString", "internal/bytealg.IndexString"], named := ["internal/bytealg.MaxLen"], apart := false }
def FnFirstDirRoundTripSaid : Prop := fnFirstDirRoundTripRow.holds Try.pinned (OpenSpec.ofChange fnFirstDirRoundTripSpec)

/-- ITS FALSE NEIGHBOUR: 'it returns false'. Refute it at one input. -/
def fnFirstDirRoundTripWrong : ChangeSpec := { name := "fnFirstDirRoundTrip", fn := fun _ => fun
  | [d1, d2] => { results := [.lit (.bool false)], args := [d1, d2] }
  | _ => none }
def FnFirstDirRoundTripWrongFalsely : Prop := fnFirstDirRoundTripRow.holds Try.pinned (OpenSpec.ofChange fnFirstDirRoundTripWrong)

/-- 'zzlaws_internal_gocmd_b1.FnFirstDirAgreesWithCutFlag': WHATEVER THE INPUT: true; the input reads as it did. -/
def fnFirstDirAgreesWithCutFlagSpec : ChangeSpec := { name := "fnFirstDirAgreesWithCutFlag", fn := fun _ => fun
  | [d] => { results := [.lit (.bool true)], args := [d] }
  | _ => none }
def fnFirstDirAgreesWithCutFlagRow : OpenClaim := { program := "qxb6600168a", sum := "c04cd53b6297a090ac7808f445642b92a68a867412957bd5e16f5f6eed26a328", func := "roux.example/roux/zzlaws_internal_gocmd_b1.FnFirstDirAgreesWithCutFlag", spec := "fnFirstDirAgreesWithCutFlag", inPlace := ["internal/bytealg.IndexByteString", "internal/bytealg.IndexString"], named := ["internal/bytealg.MaxLen"], apart := false }
def FnFirstDirAgreesWithCutFlagSaid : Prop := fnFirstDirAgreesWithCutFlagRow.holds Try.pinned (OpenSpec.ofChange fnFirstDirAgreesWithCutFlagSpec)

/-- ITS FALSE NEIGHBOUR: 'it returns false'. Refute it at one input. -/
def fnFirstDirAgreesWithCutFlagWrong : ChangeSpec := { name := "fnFirstDirAgreesWithCutFlag", fn := fun _ => fun
  | [d] => { results := [.lit (.bool false)], args := [d] }
  | _ => none }
def FnFirstDirAgreesWithCutFlagWrongFalsely : Prop := fnFirstDirAgreesWithCutFlagRow.holds Try.pinned (OpenSpec.ofChange fnFirstDirAgreesWithCutFlagWrong)

/-- 'zzlaws_internal_gocmd_b1.FnFirstDirReadsOnlyTheLead': WHATEVER THE INPUT: true; the input reads as it did. -/
def fnFirstDirReadsOnlyTheLeadSpec : ChangeSpec := { name := "fnFirstDirReadsOnlyTheLead", fn := fun _ => fun
  | [d1, d2] => { results := [.lit (.bool true)], args := [d1, d2] }
  | _ => none }
def fnFirstDirReadsOnlyTheLeadRow : OpenClaim := { program := "qxb6600168a", sum := "c04cd53b6297a090ac7808f445642b92a68a867412957bd5e16f5f6eed26a328", func := "roux.example/roux/zzlaws_internal_gocmd_b1.FnFirstDirReadsOnlyTheLead", spec := "fnFirstDirReadsOnlyTheLead", inPlace := ["internal/bytealg.IndexByteString", "internal/bytealg.IndexString"], named := ["internal/bytealg.MaxLen"], apart := false }
def FnFirstDirReadsOnlyTheLeadSaid : Prop := fnFirstDirReadsOnlyTheLeadRow.holds Try.pinned (OpenSpec.ofChange fnFirstDirReadsOnlyTheLeadSpec)

/-- ITS FALSE NEIGHBOUR: 'it returns false'. Refute it at one input. -/
def fnFirstDirReadsOnlyTheLeadWrong : ChangeSpec := { name := "fnFirstDirReadsOnlyTheLead", fn := fun _ => fun
  | [d1, d2] => { results := [.lit (.bool false)], args := [d1, d2] }
  | _ => none }
def FnFirstDirReadsOnlyTheLeadWrongFalsely : Prop := fnFirstDirReadsOnlyTheLeadRow.holds Try.pinned (OpenSpec.ofChange fnFirstDirReadsOnlyTheLeadWrong)

/-- 'zzlaws_internal_gocmd_b1.FnPositionalKeepsAndRecords': WHATEVER THE INPUT: true; the input reads as it did. -/
def fnPositionalKeepsAndRecordsSpec : ChangeSpec := { name := "fnPositionalKeepsAndRecords", fn := fun _ => fun
  | [d1, d2, d3, d4, d5] => { results := [.lit (.bool true)], args := [d1, d2, d3, d4, d5] }
  | _ => none }
def fnPositionalKeepsAndRecordsRow : OpenClaim := { program := "qxb6600168a", sum := "c04cd53b6297a090ac7808f445642b92a68a867412957bd5e16f5f6eed26a328", func := "roux.example/roux/zzlaws_internal_gocmd_b1.FnPositionalKeepsAndRecords", spec := "fnPositionalKeepsAndRecords", apart := false }
def FnPositionalKeepsAndRecordsSaid : Prop := fnPositionalKeepsAndRecordsRow.holds Try.pinned (OpenSpec.ofChange fnPositionalKeepsAndRecordsSpec)

/-- ITS FALSE NEIGHBOUR: 'it returns false'. Refute it at one input. -/
def fnPositionalKeepsAndRecordsWrong : ChangeSpec := { name := "fnPositionalKeepsAndRecords", fn := fun _ => fun
  | [d1, d2, d3, d4, d5] => { results := [.lit (.bool false)], args := [d1, d2, d3, d4, d5] }
  | _ => none }
def FnPositionalKeepsAndRecordsWrongFalsely : Prop := fnPositionalKeepsAndRecordsRow.holds Try.pinned (OpenSpec.ofChange fnPositionalKeepsAndRecordsWrong)

/-- 'zzlaws_internal_gocmd_b1.FnPositionalRunTakesLeadingGoFiles': WHATEVER THE INPUT: true; the input reads as it did. -/
def fnPositionalRunTakesLeadingGoFilesSpec : ChangeSpec := { name := "fnPositionalRunTakesLeadingGoFiles", fn := fun _ => fun
  | [d1, d2, d3] => { results := [.lit (.bool true)], args := [d1, d2, d3] }
  | _ => none }
def fnPositionalRunTakesLeadingGoFilesRow : OpenClaim := { program := "qxb6600168a", sum := "c04cd53b6297a090ac7808f445642b92a68a867412957bd5e16f5f6eed26a328", func := "roux.example/roux/zzlaws_internal_gocmd_b1.FnPositionalRunTakesLeadingGoFiles", spec := "fnPositionalRunTakesLeadingGoFiles", apart := false }
def FnPositionalRunTakesLeadingGoFilesSaid : Prop := fnPositionalRunTakesLeadingGoFilesRow.holds Try.pinned (OpenSpec.ofChange fnPositionalRunTakesLeadingGoFilesSpec)

/-- ITS FALSE NEIGHBOUR: 'it returns false'. Refute it at one input. -/
def fnPositionalRunTakesLeadingGoFilesWrong : ChangeSpec := { name := "fnPositionalRunTakesLeadingGoFiles", fn := fun _ => fun
  | [d1, d2, d3] => { results := [.lit (.bool false)], args := [d1, d2, d3] }
  | _ => none }
def FnPositionalRunTakesLeadingGoFilesWrongFalsely : Prop := fnPositionalRunTakesLeadingGoFilesRow.holds Try.pinned (OpenSpec.ofChange fnPositionalRunTakesLeadingGoFilesWrong)

/-- 'zzlaws_internal_gocmd_b1.FnPositionalSplitAgrees': WHATEVER THE INPUT: true; the input reads as it did. -/
def fnPositionalSplitAgreesSpec : ChangeSpec := { name := "fnPositionalSplitAgrees", fn := fun _ => fun
  | [d1, d2, d3] => { results := [.lit (.bool true)], args := [d1, d2, d3] }
  | _ => none }
def fnPositionalSplitAgreesRow : OpenClaim := { program := "qxb6600168a", sum := "c04cd53b6297a090ac7808f445642b92a68a867412957bd5e16f5f6eed26a328", func := "roux.example/roux/zzlaws_internal_gocmd_b1.FnPositionalSplitAgrees", spec := "fnPositionalSplitAgrees", apart := false }
def FnPositionalSplitAgreesSaid : Prop := fnPositionalSplitAgreesRow.holds Try.pinned (OpenSpec.ofChange fnPositionalSplitAgreesSpec)

/-- ITS FALSE NEIGHBOUR: 'it returns false'. Refute it at one input. -/
def fnPositionalSplitAgreesWrong : ChangeSpec := { name := "fnPositionalSplitAgrees", fn := fun _ => fun
  | [d1, d2, d3] => { results := [.lit (.bool false)], args := [d1, d2, d3] }
  | _ => none }
def FnPositionalSplitAgreesWrongFalsely : Prop := fnPositionalSplitAgreesRow.holds Try.pinned (OpenSpec.ofChange fnPositionalSplitAgreesWrong)

end Rows
end Go.Proofs.Qxb6600168a
