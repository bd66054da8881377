/-
  No cell of these rows narrows 'for every input' (looked for: loops, veiled, ifaces, maps, wideKeys, modest, calm, conditions, laid).
  DERIVED. THE GIVEN ROWS OF THIS SEAT. 6 by the template 'for every input the law returns true; each argument reads behind the call as it read before'; 0 by the template 'total and deterministic' (their statements: Qxb6000831aTotals.lean).
  GIVEN WITH THE SEED: the statements are not yours to turn. If you find one false, say at which input.
  Laid BY PROGRAM, IN A SANDBOX (cutbox-rows.mjs): the forced cells as the released guide's own fill.sh prints them over the translation 38094251bdceeb5f… (all of the seat's roots in one cut). By AI agents, Wed Nov 11 2026. No macro, syntax, notation, axiom, sorry.
-/
import Derived.Test.Qxb6000831aChecked
import GoSem.Claim
import GoSem.ClaimJoined
import GoSem.ClaimMapViews
import Derived.JoinedTies
import Derived.KernelRfl
namespace Go.Proofs.Qxb6000831a
/- THE CELL 'sum', in the pinned program and in every row, IS THE sha256 OF THE DUMP (.gsa) THAT Qxb6000831aProg.lean LOADS. Nothing in Lean hashes anything: it is a label: what it is worth is what the hold of that sum in a sandbox is worth. -/
noncomputable def Try.pinned : Pinned := { name := "qxb6000831a", sum := "38094251bdceeb5f93e9a6512863e18ded898313914c7b454ac3ec0f67127463", checked := Try.checked }
namespace Rows
def none {H : Type} : Left H := { results := [], args := [] }

/-- 'zzlaws_internal_tree_b1.FnKerberosNameMatchesModel': WHATEVER THE INPUT: true; the input reads as it did. -/
def fnKerberosNameMatchesModelSpec : ChangeSpec := { name := "fnKerberosNameMatchesModel", fn := fun _ => fun
  | [d] => { results := [.lit (.bool true)], args := [d] }
  | _ => none }
def fnKerberosNameMatchesModelRow : OpenClaim := { program := "qxb6000831a", sum := "38094251bdceeb5f93e9a6512863e18ded898313914c7b454ac3ec0f67127463", func := "example.com/treety/treety/zzlaws_internal_tree_b1.FnKerberosNameMatchesModel", spec := "fnKerberosNameMatchesModel", inPlace := ["internal/bytealg.IndexByteString", "internal/bytealg.IndexString"], named := ["internal/bytealg.MaxLen"], apart := false }
def FnKerberosNameMatchesModelSaid : Prop := fnKerberosNameMatchesModelRow.holds Try.pinned (OpenSpec.ofChange fnKerberosNameMatchesModelSpec)

/-- ITS FALSE NEIGHBOUR: 'it returns false'. Refute it at one input. -/
def fnKerberosNameMatchesModelWrong : ChangeSpec := { name := "fnKerberosNameMatchesModel", fn := fun _ => fun
  | [d] => { results := [.lit (.bool false)], args := [d] }
  | _ => none }
def FnKerberosNameMatchesModelWrongFalsely : Prop := fnKerberosNameMatchesModelRow.holds Try.pinned (OpenSpec.ofChange fnKerberosNameMatchesModelWrong)

/-- 'zzlaws_internal_tree_b1.FnKerberosNameInsertKeepsVerdict': WHATEVER THE INPUT: true; the input reads as it did. -/
def fnKerberosNameInsertKeepsVerdictSpec : ChangeSpec := { name := "fnKerberosNameInsertKeepsVerdict", fn := fun _ => fun
  | [d1, d2, d3] => { results := [.lit (.bool true)], args := [d1, d2, d3] }
  | _ => none }
def fnKerberosNameInsertKeepsVerdictRow : OpenClaim := { program := "qxb6000831a", sum := "38094251bdceeb5f93e9a6512863e18ded898313914c7b454ac3ec0f67127463", func := "example.com/treety/treety/zzlaws_internal_tree_b1.FnKerberosNameInsertKeepsVerdict", spec := "fnKerberosNameInsertKeepsVerdict", inPlace := ["internal/bytealg.IndexByteString", "internal/bytealg.IndexString"], named := ["internal/bytealg.MaxLen"], apart := false }
def FnKerberosNameInsertKeepsVerdictSaid : Prop := fnKerberosNameInsertKeepsVerdictRow.holds Try.pinned (OpenSpec.ofChange fnKerberosNameInsertKeepsVerdictSpec)

/-- ITS FALSE NEIGHBOUR: 'it returns false'. Refute it at one input. -/
def fnKerberosNameInsertKeepsVerdictWrong : ChangeSpec := { name := "fnKerberosNameInsertKeepsVerdict", fn := fun _ => fun
  | [d1, d2, d3] => { results := [.lit (.bool false)], args := [d1, d2, d3] }
  | _ => none }
def FnKerberosNameInsertKeepsVerdictWrongFalsely : Prop := fnKerberosNameInsertKeepsVerdictRow.holds Try.pinned (OpenSpec.ofChange fnKerberosNameInsertKeepsVerdictWrong)

/-- 'zzlaws_internal_tree_b1.FnEscapeValueRoundTrip': WHATEVER THE INPUT: true; the input reads as it did. -/
def fnEscapeValueRoundTripSpec : ChangeSpec := { name := "fnEscapeValueRoundTrip", fn := fun _ => fun
  | [d] => { results := [.lit (.bool true)], args := [d] }
  | _ => none }
def fnEscapeValueRoundTripRow : OpenClaim := { program := "qxb6000831a", sum := "38094251bdceeb5f93e9a6512863e18ded898313914c7b454ac3ec0f67127463", func := "example.com/treety/treety/zzlaws_internal_tree_b1.FnEscapeValueRoundTrip", spec := "fnEscapeValueRoundTrip", inPlace := ["internal/bytealg.IndexByteString", "internal/bytealg.IndexString", "internal/abi.NoEscape"], named := ["internal/bytealg.MaxLen"], apart := false }
def FnEscapeValueRoundTripSaid : Prop := fnEscapeValueRoundTripRow.holds Try.pinned (OpenSpec.ofChange fnEscapeValueRoundTripSpec)

/-- ITS FALSE NEIGHBOUR: 'it returns false'. Refute it at one input. -/
def fnEscapeValueRoundTripWrong : ChangeSpec := { name := "fnEscapeValueRoundTrip", fn := fun _ => fun
  | [d] => { results := [.lit (.bool false)], args := [d] }
  | _ => none }
def FnEscapeValueRoundTripWrongFalsely : Prop := fnEscapeValueRoundTripRow.holds Try.pinned (OpenSpec.ofChange fnEscapeValueRoundTripWrong)

/-- 'zzlaws_internal_tree_b1.FnEscapeValueSafeAndMinimal': WHATEVER THE INPUT: true; the input reads as it did. -/
def fnEscapeValueSafeAndMinimalSpec : ChangeSpec := { name := "fnEscapeValueSafeAndMinimal", fn := fun _ => fun
  | [d] => { results := [.lit (.bool true)], args := [d] }
  | _ => none }
def fnEscapeValueSafeAndMinimalRow : OpenClaim := { program := "qxb6000831a", sum := "38094251bdceeb5f93e9a6512863e18ded898313914c7b454ac3ec0f67127463", func := "example.com/treety/treety/zzlaws_internal_tree_b1.FnEscapeValueSafeAndMinimal", spec := "fnEscapeValueSafeAndMinimal", inPlace := ["internal/bytealg.IndexByteString", "internal/bytealg.IndexString", "internal/abi.NoEscape"], named := ["internal/bytealg.MaxLen"], apart := false }
def FnEscapeValueSafeAndMinimalSaid : Prop := fnEscapeValueSafeAndMinimalRow.holds Try.pinned (OpenSpec.ofChange fnEscapeValueSafeAndMinimalSpec)

/-- ITS FALSE NEIGHBOUR: 'it returns false'. Refute it at one input. -/
def fnEscapeValueSafeAndMinimalWrong : ChangeSpec := { name := "fnEscapeValueSafeAndMinimal", fn := fun _ => fun
  | [d] => { results := [.lit (.bool false)], args := [d] }
  | _ => none }
def FnEscapeValueSafeAndMinimalWrongFalsely : Prop := fnEscapeValueSafeAndMinimalRow.holds Try.pinned (OpenSpec.ofChange fnEscapeValueSafeAndMinimalWrong)

/-- 'zzlaws_internal_tree_b1.FnLapseStaysLapsed': WHATEVER THE INPUT: true; the input reads as it did. -/
def fnLapseStaysLapsedSpec : ChangeSpec := { name := "fnLapseStaysLapsed", fn := fun _ => fun
  | [d1, d2, d3, d4, d5, d6, d7, d8, d9] => { results := [.lit (.bool true)], args := [d1, d2, d3, d4, d5, d6, d7, d8, d9] }
  | _ => none }
def fnLapseStaysLapsedRow : OpenClaim := { program := "qxb6000831a", sum := "38094251bdceeb5f93e9a6512863e18ded898313914c7b454ac3ec0f67127463", func := "example.com/treety/treety/zzlaws_internal_tree_b1.FnLapseStaysLapsed", spec := "fnLapseStaysLapsed", apart := false }
def FnLapseStaysLapsedSaid : Prop := fnLapseStaysLapsedRow.holds Try.pinned (OpenSpec.ofChange fnLapseStaysLapsedSpec)

/-- ITS FALSE NEIGHBOUR: 'it returns false'. Refute it at one input. -/
def fnLapseStaysLapsedWrong : ChangeSpec := { name := "fnLapseStaysLapsed", fn := fun _ => fun
  | [d1, d2, d3, d4, d5, d6, d7, d8, d9] => { results := [.lit (.bool false)], args := [d1, d2, d3, d4, d5, d6, d7, d8, d9] }
  | _ => none }
def FnLapseStaysLapsedWrongFalsely : Prop := fnLapseStaysLapsedRow.holds Try.pinned (OpenSpec.ofChange fnLapseStaysLapsedWrong)

/-- 'zzlaws_internal_tree_b1.FnLapseContainerEmptiedAfterScript': WHATEVER THE INPUT: true; the input reads as it did. -/
def fnLapseContainerEmptiedAfterScriptSpec : ChangeSpec := { name := "fnLapseContainerEmptiedAfterScript", fn := fun _ => fun
  | [d1, d2, d3] => { results := [.lit (.bool true)], args := [d1, d2, d3] }
  | _ => none }
def fnLapseContainerEmptiedAfterScriptRow : OpenClaim := { program := "qxb6000831a", sum := "38094251bdceeb5f93e9a6512863e18ded898313914c7b454ac3ec0f67127463", func := "example.com/treety/treety/zzlaws_internal_tree_b1.FnLapseContainerEmptiedAfterScript", spec := "fnLapseContainerEmptiedAfterScript", apart := false }
def FnLapseContainerEmptiedAfterScriptSaid : Prop := fnLapseContainerEmptiedAfterScriptRow.holds Try.pinned (OpenSpec.ofChange fnLapseContainerEmptiedAfterScriptSpec)

/-- ITS FALSE NEIGHBOUR: 'it returns false'. Refute it at one input. -/
def fnLapseContainerEmptiedAfterScriptWrong : ChangeSpec := { name := "fnLapseContainerEmptiedAfterScript", fn := fun _ => fun
  | [d1, d2, d3] => { results := [.lit (.bool false)], args := [d1, d2, d3] }
  | _ => none }
def FnLapseContainerEmptiedAfterScriptWrongFalsely : Prop := fnLapseContainerEmptiedAfterScriptRow.holds Try.pinned (OpenSpec.ofChange fnLapseContainerEmptiedAfterScriptWrong)

end Rows
end Go.Proofs.Qxb6000831a
