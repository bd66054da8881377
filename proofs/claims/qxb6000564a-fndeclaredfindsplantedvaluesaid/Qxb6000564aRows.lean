/-
  No cell of these rows narrows 'for every input' (looked for: loops, veiled, ifaces, maps, wideKeys, modest, calm, conditions, laid).
  DERIVED. THE GIVEN ROWS OF THIS SEAT. 8 by the template 'for every input the law returns true; each argument reads behind the call as it read before'; 0 by the template 'total and deterministic' (their statements: Qxb6000564aTotals.lean).
  GIVEN WITH THE SEED: the statements are not yours to turn. If you find one false, say at which input.
  Laid BY PROGRAM, IN A SANDBOX (cutbox-rows.mjs): the forced cells as the released guide's own fill.sh prints them over the translation 0fb00445c6339583… (all of the seat's roots in one cut). By AI agents, Wed Nov 11 2026. No macro, syntax, notation, axiom, sorry.
-/
import Derived.Test.Qxb6000564aChecked
import GoSem.Claim
import GoSem.ClaimJoined
import GoSem.ClaimMapViews
import Derived.JoinedTies
import Derived.KernelRfl
namespace Go.Proofs.Qxb6000564a
/- THE CELL 'sum', in the pinned program and in every row, IS THE sha256 OF THE DUMP (.gsa) THAT Qxb6000564aProg.lean LOADS. Nothing in Lean hashes anything: it is a label: what it is worth is what the hold of that sum in a sandbox is worth. -/
noncomputable def Try.pinned : Pinned := { name := "qxb6000564a", sum := "0fb00445c633958371bf993a9c7687b192928e8e2e7c8601eec8d594f5f995e4", checked := Try.checked }
namespace Rows
def none {H : Type} : Left H := { results := [], args := [] }

/-- 'zzlaws_internal_xmlscan_b1.FnDigitMatchesTable': WHATEVER THE INPUT: true; the input reads as it did. -/
def fnDigitMatchesTableSpec : ChangeSpec := { name := "fnDigitMatchesTable", fn := fun _ => fun
  | [d1, d2] => { results := [.lit (.bool true)], args := [d1, d2] }
  | _ => none }
def fnDigitMatchesTableRow : OpenClaim := { program := "qxb6000564a", sum := "0fb00445c633958371bf993a9c7687b192928e8e2e7c8601eec8d594f5f995e4", func := "example.com/braidline/braidline/zzlaws_internal_xmlscan_b1.FnDigitMatchesTable", spec := "fnDigitMatchesTable", apart := false }
def FnDigitMatchesTableSaid : Prop := fnDigitMatchesTableRow.holds Try.pinned (OpenSpec.ofChange fnDigitMatchesTableSpec)

/-- ITS FALSE NEIGHBOUR: 'it returns false'. Refute it at one input. -/
def fnDigitMatchesTableWrong : ChangeSpec := { name := "fnDigitMatchesTable", fn := fun _ => fun
  | [d1, d2] => { results := [.lit (.bool false)], args := [d1, d2] }
  | _ => none }
def FnDigitMatchesTableWrongFalsely : Prop := fnDigitMatchesTableRow.holds Try.pinned (OpenSpec.ofChange fnDigitMatchesTableWrong)

/-- 'zzlaws_internal_xmlscan_b1.FnDigitHexRoundTrip': WHATEVER THE INPUT: true; the input reads as it did. -/
def fnDigitHexRoundTripSpec : ChangeSpec := { name := "fnDigitHexRoundTrip", fn := fun _ => fun
  | [d1, d2] => { results := [.lit (.bool true)], args := [d1, d2] }
  | _ => none }
def fnDigitHexRoundTripRow : OpenClaim := { program := "qxb6000564a", sum := "0fb00445c633958371bf993a9c7687b192928e8e2e7c8601eec8d594f5f995e4", func := "example.com/braidline/braidline/zzlaws_internal_xmlscan_b1.FnDigitHexRoundTrip", spec := "fnDigitHexRoundTrip", apart := false }
def FnDigitHexRoundTripSaid : Prop := fnDigitHexRoundTripRow.holds Try.pinned (OpenSpec.ofChange fnDigitHexRoundTripSpec)

/-- ITS FALSE NEIGHBOUR: 'it returns false'. Refute it at one input. -/
def fnDigitHexRoundTripWrong : ChangeSpec := { name := "fnDigitHexRoundTrip", fn := fun _ => fun
  | [d1, d2] => { results := [.lit (.bool false)], args := [d1, d2] }
  | _ => none }
def FnDigitHexRoundTripWrongFalsely : Prop := fnDigitHexRoundTripRow.holds Try.pinned (OpenSpec.ofChange fnDigitHexRoundTripWrong)

/-- 'zzlaws_internal_xmlscan_b1.FnDigitBase16ExtendsOthers': WHATEVER THE INPUT: true; the input reads as it did. -/
def fnDigitBase16ExtendsOthersSpec : ChangeSpec := { name := "fnDigitBase16ExtendsOthers", fn := fun _ => fun
  | [d1, d2] => { results := [.lit (.bool true)], args := [d1, d2] }
  | _ => none }
def fnDigitBase16ExtendsOthersRow : OpenClaim := { program := "qxb6000564a", sum := "0fb00445c633958371bf993a9c7687b192928e8e2e7c8601eec8d594f5f995e4", func := "example.com/braidline/braidline/zzlaws_internal_xmlscan_b1.FnDigitBase16ExtendsOthers", spec := "fnDigitBase16ExtendsOthers", apart := false }
def FnDigitBase16ExtendsOthersSaid : Prop := fnDigitBase16ExtendsOthersRow.holds Try.pinned (OpenSpec.ofChange fnDigitBase16ExtendsOthersSpec)

/-- ITS FALSE NEIGHBOUR: 'it returns false'. Refute it at one input. -/
def fnDigitBase16ExtendsOthersWrong : ChangeSpec := { name := "fnDigitBase16ExtendsOthers", fn := fun _ => fun
  | [d1, d2] => { results := [.lit (.bool false)], args := [d1, d2] }
  | _ => none }
def FnDigitBase16ExtendsOthersWrongFalsely : Prop := fnDigitBase16ExtendsOthersRow.holds Try.pinned (OpenSpec.ofChange fnDigitBase16ExtendsOthersWrong)

/-- 'zzlaws_internal_xmlscan_b1.FnLocalNameSplitsPrefixedName': WHATEVER THE INPUT: true; the input reads as it did. -/
def fnLocalNameSplitsPrefixedNameSpec : ChangeSpec := { name := "fnLocalNameSplitsPrefixedName", fn := fun _ => fun
  | [d1, d2] => { results := [.lit (.bool true)], args := [d1, d2] }
  | _ => none }
def fnLocalNameSplitsPrefixedNameRow : OpenClaim := { program := "qxb6000564a", sum := "0fb00445c633958371bf993a9c7687b192928e8e2e7c8601eec8d594f5f995e4", func := "example.com/braidline/braidline/zzlaws_internal_xmlscan_b1.FnLocalNameSplitsPrefixedName", spec := "fnLocalNameSplitsPrefixedName", inPlace := ["internal/bytealg.IndexByte"], apart := false }
def FnLocalNameSplitsPrefixedNameSaid : Prop := fnLocalNameSplitsPrefixedNameRow.holds Try.pinned (OpenSpec.ofChange fnLocalNameSplitsPrefixedNameSpec)

/-- ITS FALSE NEIGHBOUR: 'it returns false'. Refute it at one input. -/
def fnLocalNameSplitsPrefixedNameWrong : ChangeSpec := { name := "fnLocalNameSplitsPrefixedName", fn := fun _ => fun
  | [d1, d2] => { results := [.lit (.bool false)], args := [d1, d2] }
  | _ => none }
def FnLocalNameSplitsPrefixedNameWrongFalsely : Prop := fnLocalNameSplitsPrefixedNameRow.holds Try.pinned (OpenSpec.ofChange fnLocalNameSplitsPrefixedNameWrong)

/-- 'zzlaws_internal_xmlscan_b1.FnLocalNameCutsAtFirstInnerColon': WHATEVER THE INPUT: true; the input reads as it did. -/
def fnLocalNameCutsAtFirstInnerColonSpec : ChangeSpec := { name := "fnLocalNameCutsAtFirstInnerColon", fn := fun _ => fun
  | [d] => { results := [.lit (.bool true)], args := [d] }
  | _ => none }
def fnLocalNameCutsAtFirstInnerColonRow : OpenClaim := { program := "qxb6000564a", sum := "0fb00445c633958371bf993a9c7687b192928e8e2e7c8601eec8d594f5f995e4", func := "example.com/braidline/braidline/zzlaws_internal_xmlscan_b1.FnLocalNameCutsAtFirstInnerColon", spec := "fnLocalNameCutsAtFirstInnerColon", inPlace := ["internal/bytealg.IndexByte"], apart := false }
def FnLocalNameCutsAtFirstInnerColonSaid : Prop := fnLocalNameCutsAtFirstInnerColonRow.holds Try.pinned (OpenSpec.ofChange fnLocalNameCutsAtFirstInnerColonSpec)

/-- ITS FALSE NEIGHBOUR: 'it returns false'. Refute it at one input. -/
def fnLocalNameCutsAtFirstInnerColonWrong : ChangeSpec := { name := "fnLocalNameCutsAtFirstInnerColon", fn := fun _ => fun
  | [d] => { results := [.lit (.bool false)], args := [d] }
  | _ => none }
def FnLocalNameCutsAtFirstInnerColonWrongFalsely : Prop := fnLocalNameCutsAtFirstInnerColonRow.holds Try.pinned (OpenSpec.ofChange fnLocalNameCutsAtFirstInnerColonWrong)

/-- 'zzlaws_internal_xmlscan_b1.FnDeclaredFindsPlantedValue': WHATEVER THE INPUT: true; the input reads as it did. -/
def fnDeclaredFindsPlantedValueSpec : ChangeSpec := { name := "fnDeclaredFindsPlantedValue", fn := fun _ => fun
  | [d1, d2, d3, d4, d5] => { results := [.lit (.bool true)], args := [d1, d2, d3, d4, d5] }
  | _ => none }
def fnDeclaredFindsPlantedValueRow : OpenClaim := { program := "qxb6000564a", sum := "0fb00445c633958371bf993a9c7687b192928e8e2e7c8601eec8d594f5f995e4", func := "example.com/braidline/braidline/zzlaws_internal_xmlscan_b1.FnDeclaredFindsPlantedValue", spec := "fnDeclaredFindsPlantedValue", inPlace := ["internal/bytealg.IndexByte", "internal/bytealg.Index"], named := ["internal/bytealg.MaxLen"], apart := false }
def FnDeclaredFindsPlantedValueSaid : Prop := fnDeclaredFindsPlantedValueRow.holds Try.pinned (OpenSpec.ofChange fnDeclaredFindsPlantedValueSpec)

/-- ITS FALSE NEIGHBOUR: 'it returns false'. Refute it at one input. -/
def fnDeclaredFindsPlantedValueWrong : ChangeSpec := { name := "fnDeclaredFindsPlantedValue", fn := fun _ => fun
  | [d1, d2, d3, d4, d5] => { results := [.lit (.bool false)], args := [d1, d2, d3, d4, d5] }
  | _ => none }
def FnDeclaredFindsPlantedValueWrongFalsely : Prop := fnDeclaredFindsPlantedValueRow.holds Try.pinned (OpenSpec.ofChange fnDeclaredFindsPlantedValueWrong)

/-- 'zzlaws_internal_xmlscan_b1.FnDeclaredEmptyWithoutKeyOrQuote': WHATEVER THE INPUT: true; the input reads as it did. -/
def fnDeclaredEmptyWithoutKeyOrQuoteSpec : ChangeSpec := { name := "fnDeclaredEmptyWithoutKeyOrQuote", fn := fun _ => fun
  | [d1, d2] => { results := [.lit (.bool true)], args := [d1, d2] }
  | _ => none }
def fnDeclaredEmptyWithoutKeyOrQuoteRow : OpenClaim := { program := "qxb6000564a", sum := "0fb00445c633958371bf993a9c7687b192928e8e2e7c8601eec8d594f5f995e4", func := "example.com/braidline/braidline/zzlaws_internal_xmlscan_b1.FnDeclaredEmptyWithoutKeyOrQuote", spec := "fnDeclaredEmptyWithoutKeyOrQuote", inPlace := ["internal/bytealg.IndexByte", "internal/bytealg.Index"], named := ["internal/bytealg.MaxLen"], apart := false }
def FnDeclaredEmptyWithoutKeyOrQuoteSaid : Prop := fnDeclaredEmptyWithoutKeyOrQuoteRow.holds Try.pinned (OpenSpec.ofChange fnDeclaredEmptyWithoutKeyOrQuoteSpec)

/-- ITS FALSE NEIGHBOUR: 'it returns false'. Refute it at one input. -/
def fnDeclaredEmptyWithoutKeyOrQuoteWrong : ChangeSpec := { name := "fnDeclaredEmptyWithoutKeyOrQuote", fn := fun _ => fun
  | [d1, d2] => { results := [.lit (.bool false)], args := [d1, d2] }
  | _ => none }
def FnDeclaredEmptyWithoutKeyOrQuoteWrongFalsely : Prop := fnDeclaredEmptyWithoutKeyOrQuoteRow.holds Try.pinned (OpenSpec.ofChange fnDeclaredEmptyWithoutKeyOrQuoteWrong)

/-- 'zzlaws_internal_xmlscan_b1.FnDeclaredValueSitsBetweenQuotesAfterKey': WHATEVER THE INPUT: true; the input reads as it did. -/
def fnDeclaredValueSitsBetweenQuotesAfterKeySpec : ChangeSpec := { name := "fnDeclaredValueSitsBetweenQuotesAfterKey", fn := fun _ => fun
  | [d1, d2] => { results := [.lit (.bool true)], args := [d1, d2] }
  | _ => none }
def fnDeclaredValueSitsBetweenQuotesAfterKeyRow : OpenClaim := { program := "qxb6000564a", sum := "0fb00445c633958371bf993a9c7687b192928e8e2e7c8601eec8d594f5f995e4", func := "example.com/braidline/braidline/zzlaws_internal_xmlscan_b1.FnDeclaredValueSitsBetweenQuotesAfterKey", spec := "fnDeclaredValueSitsBetweenQuotesAfterKey", inPlace := ["internal/bytealg.IndexByte", "internal/bytealg.Index"], named := ["internal/bytealg.MaxLen"], apart := false }
def FnDeclaredValueSitsBetweenQuotesAfterKeySaid : Prop := fnDeclaredValueSitsBetweenQuotesAfterKeyRow.holds Try.pinned (OpenSpec.ofChange fnDeclaredValueSitsBetweenQuotesAfterKeySpec)

/-- ITS FALSE NEIGHBOUR: 'it returns false'. Refute it at one input. -/
def fnDeclaredValueSitsBetweenQuotesAfterKeyWrong : ChangeSpec := { name := "fnDeclaredValueSitsBetweenQuotesAfterKey", fn := fun _ => fun
  | [d1, d2] => { results := [.lit (.bool false)], args := [d1, d2] }
  | _ => none }
def FnDeclaredValueSitsBetweenQuotesAfterKeyWrongFalsely : Prop := fnDeclaredValueSitsBetweenQuotesAfterKeyRow.holds Try.pinned (OpenSpec.ofChange fnDeclaredValueSitsBetweenQuotesAfterKeyWrong)

end Rows
end Go.Proofs.Qxb6000564a
