/-
  No cell of these rows narrows 'for every input' (looked for: loops, veiled, ifaces, maps, wideKeys, modest, calm, conditions, laid).
  DERIVED. THE GIVEN ROWS OF THIS SEAT. 2 by the template 'for every input the law returns true; each argument reads behind the call as it read before'; 0 by the template 'total and deterministic' (their statements: Qxb6000122aTotals.lean).
  GIVEN WITH THE SEED: the statements are not yours to turn. If you find one false, say at which input.
  Laid BY PROGRAM, IN A SANDBOX (cutbox-rows.mjs): the forced cells as the released guide's own fill.sh prints them over the translation fdbc66d09e655ce1… (all of the seat's roots in one cut). By AI agents, Wed Nov 11 2026. No macro, syntax, notation, axiom, sorry.
-/
import Derived.Test.Qxb6000122aChecked
import GoSem.Claim
import GoSem.ClaimJoined
import GoSem.ClaimMapViews
import Derived.JoinedTies
import Derived.KernelRfl
namespace Go.Proofs.Qxb6000122a
/- THE CELL 'sum', in the pinned program and in every row, IS THE sha256 OF THE DUMP (.gsa) THAT Qxb6000122aProg.lean LOADS. Nothing in Lean hashes anything: it is a label: what it is worth is what the hold of that sum in a sandbox is worth. -/
noncomputable def Try.pinned : Pinned := { name := "qxb6000122a", sum := "fdbc66d09e655ce13d4e1634e8549166d4452f9f162f05e3c1e3307acdf46317", checked := Try.checked }
namespace Rows
def none {H : Type} : Left H := { results := [], args := [] }

/-- 'zzlaws_root_b1.FnHexDigitAgainstDigitStrings': WHATEVER THE INPUT: true; the input reads as it did. -/
def fnHexDigitAgainstDigitStringsSpec : ChangeSpec := { name := "fnHexDigitAgainstDigitStrings", fn := fun _ => fun
  | [d] => { results := [.lit (.bool true)], args := [d] }
  | _ => none }
def fnHexDigitAgainstDigitStringsRow : OpenClaim := { program := "qxb6000122a", sum := "fdbc66d09e655ce13d4e1634e8549166d4452f9f162f05e3c1e3307acdf46317", func := "example.com/wait-or-fail/wait-or-fail/zzlaws_root_b1.FnHexDigitAgainstDigitStrings", spec := "fnHexDigitAgainstDigitStrings", apart := false }
def FnHexDigitAgainstDigitStringsSaid : Prop := fnHexDigitAgainstDigitStringsRow.holds Try.pinned (OpenSpec.ofChange fnHexDigitAgainstDigitStringsSpec)

/-- ITS FALSE NEIGHBOUR: 'it returns false'. Refute it at one input. -/
def fnHexDigitAgainstDigitStringsWrong : ChangeSpec := { name := "fnHexDigitAgainstDigitStrings", fn := fun _ => fun
  | [d] => { results := [.lit (.bool false)], args := [d] }
  | _ => none }
def FnHexDigitAgainstDigitStringsWrongFalsely : Prop := fnHexDigitAgainstDigitStringsRow.holds Try.pinned (OpenSpec.ofChange fnHexDigitAgainstDigitStringsWrong)

/-- 'zzlaws_root_b1.FnFieldScriptGathersDataAndKeepsLastEvent': WHATEVER THE INPUT: true; the input reads as it did. -/
def fnFieldScriptGathersDataAndKeepsLastEventSpec : ChangeSpec := { name := "fnFieldScriptGathersDataAndKeepsLastEvent", fn := fun _ => fun
  | [d] => { results := [.lit (.bool true)], args := [d] }
  | _ => none }
def fnFieldScriptGathersDataAndKeepsLastEventRow : OpenClaim := { program := "qxb6000122a", sum := "fdbc66d09e655ce13d4e1634e8549166d4452f9f162f05e3c1e3307acdf46317", func := "example.com/wait-or-fail/wait-or-fail/zzlaws_root_b1.FnFieldScriptGathersDataAndKeepsLastEvent", spec := "fnFieldScriptGathersDataAndKeepsLastEvent", inPlace := ["internal/bytealg.IndexByte", "internal/bytealg.Index"], named := ["internal/bytealg.MaxLen"], apart := false }
def FnFieldScriptGathersDataAndKeepsLastEventSaid : Prop := fnFieldScriptGathersDataAndKeepsLastEventRow.holds Try.pinned (OpenSpec.ofChange fnFieldScriptGathersDataAndKeepsLastEventSpec)

/-- ITS FALSE NEIGHBOUR: 'it returns false'. Refute it at one input. -/
def fnFieldScriptGathersDataAndKeepsLastEventWrong : ChangeSpec := { name := "fnFieldScriptGathersDataAndKeepsLastEvent", fn := fun _ => fun
  | [d] => { results := [.lit (.bool false)], args := [d] }
  | _ => none }
def FnFieldScriptGathersDataAndKeepsLastEventWrongFalsely : Prop := fnFieldScriptGathersDataAndKeepsLastEventRow.holds Try.pinned (OpenSpec.ofChange fnFieldScriptGathersDataAndKeepsLastEventWrong)

end Rows
end Go.Proofs.Qxb6000122a
