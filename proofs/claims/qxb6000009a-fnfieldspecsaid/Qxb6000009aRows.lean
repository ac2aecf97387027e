/-
  No cell of these rows narrows 'for every input' (looked for: loops, veiled, ifaces, maps, wideKeys, modest, calm, conditions, laid).
  DERIVED. THE GIVEN ROWS OF THIS SEAT. 3 by the template 'for every input the law returns true; each argument reads behind the call as it read before'; 0 by the template 'total and deterministic' (their statements: Qxb6000009aTotals.lean).
  GIVEN WITH THE SEED: the statements are not yours to turn. If you find one false, say at which input.
  Laid BY PROGRAM, IN A SANDBOX (cutbox-rows.mjs): the forced cells as the released guide's own fill.sh prints them over the translation bf9fc85c2c6778ed… (all of the seat's roots in one cut). By AI agents, Wed Nov 11 2026. No macro, syntax, notation, axiom, sorry.
-/
import Derived.Test.Qxb6000009aChecked
import GoSem.Claim
import GoSem.ClaimJoined
import GoSem.ClaimMapViews
import Derived.JoinedTies
import Derived.KernelRfl
namespace Go.Proofs.Qxb6000009a
/- THE CELL 'sum', in the pinned program and in every row, IS THE sha256 OF THE DUMP (.gsa) THAT Qxb6000009aProg.lean LOADS. Nothing in Lean hashes anything: it is a label: what it is worth is what the hold of that sum in a sandbox is worth. -/
noncomputable def Try.pinned : Pinned := { name := "qxb6000009a", sum := "bf9fc85c2c6778edf9a9c400c241ec200c392e107dbd4e59d612c1bb521b6d57", checked := Try.checked }
namespace Rows
def none {H : Type} : Left H := { results := [], args := [] }

/-- 'zzlaws_root_b1.FnHexDigitSpec': WHATEVER THE INPUT: true; the input reads as it did. -/
def fnHexDigitSpecSpec : ChangeSpec := { name := "fnHexDigitSpec", fn := fun _ => fun
  | [d] => { results := [.lit (.bool true)], args := [d] }
  | _ => none }
def fnHexDigitSpecRow : OpenClaim := { program := "qxb6000009a", sum := "bf9fc85c2c6778edf9a9c400c241ec200c392e107dbd4e59d612c1bb521b6d57", func := "example.com/wait-or-fail/wait-or-fail/zzlaws_root_b1.FnHexDigitSpec", spec := "fnHexDigitSpec", apart := false }
def FnHexDigitSpecSaid : Prop := fnHexDigitSpecRow.holds Try.pinned (OpenSpec.ofChange fnHexDigitSpecSpec)

/-- ITS FALSE NEIGHBOUR: 'it returns false'. Refute it at one input. -/
def fnHexDigitSpecWrong : ChangeSpec := { name := "fnHexDigitSpec", fn := fun _ => fun
  | [d] => { results := [.lit (.bool false)], args := [d] }
  | _ => none }
def FnHexDigitSpecWrongFalsely : Prop := fnHexDigitSpecRow.holds Try.pinned (OpenSpec.ofChange fnHexDigitSpecWrong)

/-- 'zzlaws_root_b1.FnHexDigitByteRoundTrip': WHATEVER THE INPUT: true; the input reads as it did. -/
def fnHexDigitByteRoundTripSpec : ChangeSpec := { name := "fnHexDigitByteRoundTrip", fn := fun _ => fun
  | [d1, d2, d3] => { results := [.lit (.bool true)], args := [d1, d2, d3] }
  | _ => none }
def fnHexDigitByteRoundTripRow : OpenClaim := { program := "qxb6000009a", sum := "bf9fc85c2c6778edf9a9c400c241ec200c392e107dbd4e59d612c1bb521b6d57", func := "example.com/wait-or-fail/wait-or-fail/zzlaws_root_b1.FnHexDigitByteRoundTrip", spec := "fnHexDigitByteRoundTrip", apart := false }
def FnHexDigitByteRoundTripSaid : Prop := fnHexDigitByteRoundTripRow.holds Try.pinned (OpenSpec.ofChange fnHexDigitByteRoundTripSpec)

/-- ITS FALSE NEIGHBOUR: 'it returns false'. Refute it at one input. -/
def fnHexDigitByteRoundTripWrong : ChangeSpec := { name := "fnHexDigitByteRoundTrip", fn := fun _ => fun
  | [d1, d2, d3] => { results := [.lit (.bool false)], args := [d1, d2, d3] }
  | _ => none }
def FnHexDigitByteRoundTripWrongFalsely : Prop := fnHexDigitByteRoundTripRow.holds Try.pinned (OpenSpec.ofChange fnHexDigitByteRoundTripWrong)

/-- 'zzlaws_root_b1.FnFieldSpec': WHATEVER THE INPUT: true; the input reads as it did. -/
def fnFieldSpecSpec : ChangeSpec := { name := "fnFieldSpec", fn := fun _ => fun
  | [d1, d2, d3] => { results := [.lit (.bool true)], args := [d1, d2, d3] }
  | _ => none }
def fnFieldSpecRow : OpenClaim := { program := "qxb6000009a", sum := "bf9fc85c2c6778edf9a9c400c241ec200c392e107dbd4e59d612c1bb521b6d57", func := "example.com/wait-or-fail/wait-or-fail/zzlaws_root_b1.FnFieldSpec", spec := "fnFieldSpec", inPlace := ["internal/bytealg.IndexByte", "internal/bytealg.Index"], named := ["internal/bytealg.MaxLen"], apart := false }
def FnFieldSpecSaid : Prop := fnFieldSpecRow.holds Try.pinned (OpenSpec.ofChange fnFieldSpecSpec)

/-- ITS FALSE NEIGHBOUR: 'it returns false'. Refute it at one input. -/
def fnFieldSpecWrong : ChangeSpec := { name := "fnFieldSpec", fn := fun _ => fun
  | [d1, d2, d3] => { results := [.lit (.bool false)], args := [d1, d2, d3] }
  | _ => none }
def FnFieldSpecWrongFalsely : Prop := fnFieldSpecRow.holds Try.pinned (OpenSpec.ofChange fnFieldSpecWrong)

end Rows
end Go.Proofs.Qxb6000009a
