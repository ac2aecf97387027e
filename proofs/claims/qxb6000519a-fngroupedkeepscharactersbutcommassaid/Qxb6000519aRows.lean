/-
  No cell of these rows narrows 'for every input' (looked for: loops, veiled, ifaces, maps, wideKeys, modest, calm, conditions, laid).
  DERIVED. THE GIVEN ROWS OF THIS SEAT. 5 by the template 'for every input the law returns true; each argument reads behind the call as it read before'; 0 by the template 'total and deterministic' (their statements: Qxb6000519aTotals.lean).
  GIVEN WITH THE SEED: the statements are not yours to turn. If you find one false, say at which input.
  Laid BY PROGRAM, IN A SANDBOX (cutbox-rows.mjs): the forced cells as the released guide's own fill.sh prints them over the translation 91a939e51299f789… (all of the seat's roots in one cut). By AI agents, Wed Nov 11 2026. No macro, syntax, notation, axiom, sorry.
-/
import Derived.Test.Qxb6000519aChecked
import GoSem.Claim
import GoSem.ClaimJoined
import GoSem.ClaimMapViews
import Derived.JoinedTies
import Derived.KernelRfl
namespace Go.Proofs.Qxb6000519a
/- THE CELL 'sum', in the pinned program and in every row, IS THE sha256 OF THE DUMP (.gsa) THAT Qxb6000519aProg.lean LOADS. Nothing in Lean hashes anything: it is a label: what it is worth is what the hold of that sum in a sandbox is worth. -/
noncomputable def Try.pinned : Pinned := { name := "qxb6000519a", sum := "91a939e51299f7899d5526359872cf639ecc20cbc65d49f54086e60c334e5095", checked := Try.checked }
namespace Rows
def none {H : Type} : Left H := { results := [], args := [] }

/-- 'zzlaws_internal_report_b1.FnGroupedKeepsCharactersButCommas': WHATEVER THE INPUT: true; the input reads as it did. -/
def fnGroupedKeepsCharactersButCommasSpec : ChangeSpec := { name := "fnGroupedKeepsCharactersButCommas", fn := fun _ => fun
  | [d] => { results := [.lit (.bool true)], args := [d] }
  | _ => none }
def fnGroupedKeepsCharactersButCommasRow : OpenClaim := { program := "qxb6000519a", sum := "91a939e51299f7899d5526359872cf639ecc20cbc65d49f54086e60c334e5095", func := "example.com/vestwright/vestwright/zzlaws_internal_report_b1.FnGroupedKeepsCharactersButCommas", spec := "fnGroupedKeepsCharactersButCommas", inPlace := ["internal/bytealg.IndexByteString", "internal/bytealg.IndexString", "internal/abi.NoEscape", "internal/bytealg.MakeNoZero"], named := ["internal/bytealg.MaxLen"], apart := false }
def FnGroupedKeepsCharactersButCommasSaid : Prop := fnGroupedKeepsCharactersButCommasRow.holds Try.pinned (OpenSpec.ofChange fnGroupedKeepsCharactersButCommasSpec)

/-- ITS FALSE NEIGHBOUR: 'it returns false'. Refute it at one input. -/
def fnGroupedKeepsCharactersButCommasWrong : ChangeSpec := { name := "fnGroupedKeepsCharactersButCommas", fn := fun _ => fun
  | [d] => { results := [.lit (.bool false)], args := [d] }
  | _ => none }
def FnGroupedKeepsCharactersButCommasWrongFalsely : Prop := fnGroupedKeepsCharactersButCommasRow.holds Try.pinned (OpenSpec.ofChange fnGroupedKeepsCharactersButCommasWrong)

/-- 'zzlaws_internal_report_b1.FnGroupedThreeDigitGroups': WHATEVER THE INPUT: true; the input reads as it did. -/
def fnGroupedThreeDigitGroupsSpec : ChangeSpec := { name := "fnGroupedThreeDigitGroups", fn := fun _ => fun
  | [d] => { results := [.lit (.bool true)], args := [d] }
  | _ => none }
def fnGroupedThreeDigitGroupsRow : OpenClaim := { program := "qxb6000519a", sum := "91a939e51299f7899d5526359872cf639ecc20cbc65d49f54086e60c334e5095", func := "example.com/vestwright/vestwright/zzlaws_internal_report_b1.FnGroupedThreeDigitGroups", spec := "fnGroupedThreeDigitGroups", inPlace := ["internal/bytealg.IndexByteString", "internal/bytealg.IndexString", "internal/abi.NoEscape", "internal/bytealg.MakeNoZero"], named := ["internal/bytealg.MaxLen"], apart := false }
def FnGroupedThreeDigitGroupsSaid : Prop := fnGroupedThreeDigitGroupsRow.holds Try.pinned (OpenSpec.ofChange fnGroupedThreeDigitGroupsSpec)

/-- ITS FALSE NEIGHBOUR: 'it returns false'. Refute it at one input. -/
def fnGroupedThreeDigitGroupsWrong : ChangeSpec := { name := "fnGroupedThreeDigitGroups", fn := fun _ => fun
  | [d] => { results := [.lit (.bool false)], args := [d] }
  | _ => none }
def FnGroupedThreeDigitGroupsWrongFalsely : Prop := fnGroupedThreeDigitGroupsRow.holds Try.pinned (OpenSpec.ofChange fnGroupedThreeDigitGroupsWrong)

/-- 'zzlaws_internal_report_b1.FnFitsUnchangedByGrouping': WHATEVER THE INPUT: true; the input reads as it did. -/
def fnFitsUnchangedByGroupingSpec : ChangeSpec := { name := "fnFitsUnchangedByGrouping", fn := fun _ => fun
  | [d] => { results := [.lit (.bool true)], args := [d] }
  | _ => none }
def fnFitsUnchangedByGroupingRow : OpenClaim := { program := "qxb6000519a", sum := "91a939e51299f7899d5526359872cf639ecc20cbc65d49f54086e60c334e5095", func := "example.com/vestwright/vestwright/zzlaws_internal_report_b1.FnFitsUnchangedByGrouping", spec := "fnFitsUnchangedByGrouping", inPlace := ["internal/bytealg.IndexByteString", "internal/bytealg.IndexString", "internal/abi.NoEscape", "internal/bytealg.MakeNoZero"], named := ["internal/bytealg.MaxLen"], apart := false }
def FnFitsUnchangedByGroupingSaid : Prop := fnFitsUnchangedByGroupingRow.holds Try.pinned (OpenSpec.ofChange fnFitsUnchangedByGroupingSpec)

/-- ITS FALSE NEIGHBOUR: 'it returns false'. Refute it at one input. -/
def fnFitsUnchangedByGroupingWrong : ChangeSpec := { name := "fnFitsUnchangedByGrouping", fn := fun _ => fun
  | [d] => { results := [.lit (.bool false)], args := [d] }
  | _ => none }
def FnFitsUnchangedByGroupingWrongFalsely : Prop := fnFitsUnchangedByGroupingRow.holds Try.pinned (OpenSpec.ofChange fnFitsUnchangedByGroupingWrong)

/-- 'zzlaws_internal_report_b1.FnFitsSplitNeverHelps': WHATEVER THE INPUT: true; the input reads as it did. -/
def fnFitsSplitNeverHelpsSpec : ChangeSpec := { name := "fnFitsSplitNeverHelps", fn := fun _ => fun
  | [d1, d2] => { results := [.lit (.bool true)], args := [d1, d2] }
  | _ => none }
def fnFitsSplitNeverHelpsRow : OpenClaim := { program := "qxb6000519a", sum := "91a939e51299f7899d5526359872cf639ecc20cbc65d49f54086e60c334e5095", func := "example.com/vestwright/vestwright/zzlaws_internal_report_b1.FnFitsSplitNeverHelps", spec := "fnFitsSplitNeverHelps", apart := false }
def FnFitsSplitNeverHelpsSaid : Prop := fnFitsSplitNeverHelpsRow.holds Try.pinned (OpenSpec.ofChange fnFitsSplitNeverHelpsSpec)

/-- ITS FALSE NEIGHBOUR: 'it returns false'. Refute it at one input. -/
def fnFitsSplitNeverHelpsWrong : ChangeSpec := { name := "fnFitsSplitNeverHelps", fn := fun _ => fun
  | [d1, d2] => { results := [.lit (.bool false)], args := [d1, d2] }
  | _ => none }
def FnFitsSplitNeverHelpsWrongFalsely : Prop := fnFitsSplitNeverHelpsRow.holds Try.pinned (OpenSpec.ofChange fnFitsSplitNeverHelpsWrong)

/-- 'zzlaws_internal_report_b1.FnFitsDecimalCountsSignificantDigits': WHATEVER THE INPUT: true; the input reads as it did. -/
def fnFitsDecimalCountsSignificantDigitsSpec : ChangeSpec := { name := "fnFitsDecimalCountsSignificantDigits", fn := fun _ => fun
  | [d1, d2, d3, d4] => { results := [.lit (.bool true)], args := [d1, d2, d3, d4] }
  | _ => none }
def fnFitsDecimalCountsSignificantDigitsRow : OpenClaim := { program := "qxb6000519a", sum := "91a939e51299f7899d5526359872cf639ecc20cbc65d49f54086e60c334e5095", func := "example.com/vestwright/vestwright/zzlaws_internal_report_b1.FnFitsDecimalCountsSignificantDigits", spec := "fnFitsDecimalCountsSignificantDigits", apart := false }
def FnFitsDecimalCountsSignificantDigitsSaid : Prop := fnFitsDecimalCountsSignificantDigitsRow.holds Try.pinned (OpenSpec.ofChange fnFitsDecimalCountsSignificantDigitsSpec)

/-- ITS FALSE NEIGHBOUR: 'it returns false'. Refute it at one input. -/
def fnFitsDecimalCountsSignificantDigitsWrong : ChangeSpec := { name := "fnFitsDecimalCountsSignificantDigits", fn := fun _ => fun
  | [d1, d2, d3, d4] => { results := [.lit (.bool false)], args := [d1, d2, d3, d4] }
  | _ => none }
def FnFitsDecimalCountsSignificantDigitsWrongFalsely : Prop := fnFitsDecimalCountsSignificantDigitsRow.holds Try.pinned (OpenSpec.ofChange fnFitsDecimalCountsSignificantDigitsWrong)

end Rows
end Go.Proofs.Qxb6000519a
