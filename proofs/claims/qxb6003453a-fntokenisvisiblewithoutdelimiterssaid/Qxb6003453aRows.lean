/-
  No cell of these rows narrows 'for every input' (looked for: loops, veiled, ifaces, maps, wideKeys, modest, calm, conditions, laid).
  DERIVED. THE GIVEN ROWS OF THIS SEAT. 5 by the template 'for every input the law returns true; each argument reads behind the call as it read before'; 0 by the template 'total and deterministic' (their statements: Qxb6003453aTotals.lean).
  GIVEN WITH THE SEED: the statements are not yours to turn. If you find one false, say at which input.
  Laid BY PROGRAM, IN A SANDBOX (cutbox-rows.mjs): the forced cells as the released guide's own fill.sh prints them over the translation e60d6b227cc598a0… (all of the seat's roots in one cut). By AI agents, Wed Nov 11 2026. No macro, syntax, notation, axiom, sorry.
-/
import Derived.Test.Qxb6003453aChecked
import GoSem.Claim
import GoSem.ClaimJoined
import GoSem.ClaimMapViews
import Derived.JoinedTies
import Derived.KernelRfl
namespace Go.Proofs.Qxb6003453a
/- THE CELL 'sum', in the pinned program and in every row, IS THE sha256 OF THE DUMP (.gsa) THAT Qxb6003453aProg.lean LOADS. Nothing in Lean hashes anything: it is a label: what it is worth is what the hold of that sum in a sandbox is worth. -/
noncomputable def Try.pinned : Pinned := { name := "qxb6003453a", sum := "e60d6b227cc598a07846039ede6772c7fd4cc4b980c12ebd16aa74004c216097", checked := Try.checked }
namespace Rows
def none {H : Type} : Left H := { results := [], args := [] }

/-- 'zzlaws_internal_server_b1.FnVisibleConcat': WHATEVER THE INPUT: true; the input reads as it did. -/
def fnVisibleConcatSpec : ChangeSpec := { name := "fnVisibleConcat", fn := fun _ => fun
  | [d1, d2] => { results := [.lit (.bool true)], args := [d1, d2] }
  | _ => none }
def fnVisibleConcatRow : OpenClaim := { program := "qxb6003453a", sum := "e60d6b227cc598a07846039ede6772c7fd4cc4b980c12ebd16aa74004c216097", func := "example.com/latchkey/latchkey/zzlaws_internal_server_b1.FnVisibleConcat", spec := "fnVisibleConcat", apart := false }
def FnVisibleConcatSaid : Prop := fnVisibleConcatRow.holds Try.pinned (OpenSpec.ofChange fnVisibleConcatSpec)

/-- ITS FALSE NEIGHBOUR: 'it returns false'. Refute it at one input. -/
def fnVisibleConcatWrong : ChangeSpec := { name := "fnVisibleConcat", fn := fun _ => fun
  | [d1, d2] => { results := [.lit (.bool false)], args := [d1, d2] }
  | _ => none }
def FnVisibleConcatWrongFalsely : Prop := fnVisibleConcatRow.holds Try.pinned (OpenSpec.ofChange fnVisibleConcatWrong)

/-- 'zzlaws_internal_server_b1.FnHeadLengthSettledByPrefix': WHATEVER THE INPUT: true; the input reads as it did. -/
def fnHeadLengthSettledByPrefixSpec : ChangeSpec := { name := "fnHeadLengthSettledByPrefix", fn := fun _ => fun
  | [d1, d2] => { results := [.lit (.bool true)], args := [d1, d2] }
  | _ => none }
def fnHeadLengthSettledByPrefixRow : OpenClaim := { program := "qxb6003453a", sum := "e60d6b227cc598a07846039ede6772c7fd4cc4b980c12ebd16aa74004c216097", func := "example.com/latchkey/latchkey/zzlaws_internal_server_b1.FnHeadLengthSettledByPrefix", spec := "fnHeadLengthSettledByPrefix", inPlace := ["internal/bytealg.IndexByte"], apart := false }
def FnHeadLengthSettledByPrefixSaid : Prop := fnHeadLengthSettledByPrefixRow.holds Try.pinned (OpenSpec.ofChange fnHeadLengthSettledByPrefixSpec)

/-- ITS FALSE NEIGHBOUR: 'it returns false'. Refute it at one input. -/
def fnHeadLengthSettledByPrefixWrong : ChangeSpec := { name := "fnHeadLengthSettledByPrefix", fn := fun _ => fun
  | [d1, d2] => { results := [.lit (.bool false)], args := [d1, d2] }
  | _ => none }
def FnHeadLengthSettledByPrefixWrongFalsely : Prop := fnHeadLengthSettledByPrefixRow.holds Try.pinned (OpenSpec.ofChange fnHeadLengthSettledByPrefixWrong)

/-- 'zzlaws_internal_server_b1.FnTokenIsVisibleWithoutDelimiters': WHATEVER THE INPUT: true; the input reads as it did. -/
def fnTokenIsVisibleWithoutDelimitersSpec : ChangeSpec := { name := "fnTokenIsVisibleWithoutDelimiters", fn := fun _ => fun
  | [d] => { results := [.lit (.bool true)], args := [d] }
  | _ => none }
def fnTokenIsVisibleWithoutDelimitersRow : OpenClaim := { program := "qxb6003453a", sum := "e60d6b227cc598a07846039ede6772c7fd4cc4b980c12ebd16aa74004c216097", func := "example.com/latchkey/latchkey/zzlaws_internal_server_b1.FnTokenIsVisibleWithoutDelimiters", spec := "fnTokenIsVisibleWithoutDelimiters", inPlace := ["internal/bytealg.IndexByteString"], apart := false }
def FnTokenIsVisibleWithoutDelimitersSaid : Prop := fnTokenIsVisibleWithoutDelimitersRow.holds Try.pinned (OpenSpec.ofChange fnTokenIsVisibleWithoutDelimitersSpec)

/-- ITS FALSE NEIGHBOUR: 'it returns false'. Refute it at one input. -/
def fnTokenIsVisibleWithoutDelimitersWrong : ChangeSpec := { name := "fnTokenIsVisibleWithoutDelimiters", fn := fun _ => fun
  | [d] => { results := [.lit (.bool false)], args := [d] }
  | _ => none }
def FnTokenIsVisibleWithoutDelimitersWrongFalsely : Prop := fnTokenIsVisibleWithoutDelimitersRow.holds Try.pinned (OpenSpec.ofChange fnTokenIsVisibleWithoutDelimitersWrong)

/-- 'zzlaws_internal_server_b1.FnTokenConcat': WHATEVER THE INPUT: true; the input reads as it did. -/
def fnTokenConcatSpec : ChangeSpec := { name := "fnTokenConcat", fn := fun _ => fun
  | [d1, d2] => { results := [.lit (.bool true)], args := [d1, d2] }
  | _ => none }
def fnTokenConcatRow : OpenClaim := { program := "qxb6003453a", sum := "e60d6b227cc598a07846039ede6772c7fd4cc4b980c12ebd16aa74004c216097", func := "example.com/latchkey/latchkey/zzlaws_internal_server_b1.FnTokenConcat", spec := "fnTokenConcat", inPlace := ["internal/bytealg.IndexByteString"], apart := false }
def FnTokenConcatSaid : Prop := fnTokenConcatRow.holds Try.pinned (OpenSpec.ofChange fnTokenConcatSpec)

/-- ITS FALSE NEIGHBOUR: 'it returns false'. Refute it at one input. -/
def fnTokenConcatWrong : ChangeSpec := { name := "fnTokenConcat", fn := fun _ => fun
  | [d1, d2] => { results := [.lit (.bool false)], args := [d1, d2] }
  | _ => none }
def FnTokenConcatWrongFalsely : Prop := fnTokenConcatRow.holds Try.pinned (OpenSpec.ofChange fnTokenConcatWrong)

/-- 'zzlaws_internal_server_b1.FnTokenAndVisibleCaseFree': WHATEVER THE INPUT: true; the input reads as it did. -/
def fnTokenAndVisibleCaseFreeSpec : ChangeSpec := { name := "fnTokenAndVisibleCaseFree", fn := fun _ => fun
  | [d] => { results := [.lit (.bool true)], args := [d] }
  | _ => none }
def fnTokenAndVisibleCaseFreeRow : OpenClaim := { program := "qxb6003453a", sum := "e60d6b227cc598a07846039ede6772c7fd4cc4b980c12ebd16aa74004c216097", func := "example.com/latchkey/latchkey/zzlaws_internal_server_b1.FnTokenAndVisibleCaseFree", spec := "fnTokenAndVisibleCaseFree", inPlace := ["internal/bytealg.IndexByteString"], apart := false }
def FnTokenAndVisibleCaseFreeSaid : Prop := fnTokenAndVisibleCaseFreeRow.holds Try.pinned (OpenSpec.ofChange fnTokenAndVisibleCaseFreeSpec)

/-- ITS FALSE NEIGHBOUR: 'it returns false'. Refute it at one input. -/
def fnTokenAndVisibleCaseFreeWrong : ChangeSpec := { name := "fnTokenAndVisibleCaseFree", fn := fun _ => fun
  | [d] => { results := [.lit (.bool false)], args := [d] }
  | _ => none }
def FnTokenAndVisibleCaseFreeWrongFalsely : Prop := fnTokenAndVisibleCaseFreeRow.holds Try.pinned (OpenSpec.ofChange fnTokenAndVisibleCaseFreeWrong)

end Rows
end Go.Proofs.Qxb6003453a
