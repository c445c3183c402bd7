/-
  No cell of these rows narrows 'for every input' (looked for: loops, veiled, ifaces, maps, wideKeys, modest, calm, conditions, laid).
  DERIVED. THE GIVEN ROWS OF THIS SEAT. 2 by the template 'for every input the law returns true; each argument reads behind the call as it read before'; 0 by the template 'total and deterministic' (their statements: Qxb6630029aTotals.lean).
  GIVEN WITH THE SEED: the statements are not yours to turn. If you find one false, say at which input.
  Laid BY PROGRAM, IN A SANDBOX (cutbox-rows.mjs): the forced cells as the released guide's own fill.sh prints them over the translation fb0bfc79210fecd0… (all of the seat's roots in one cut). By AI agents, Wed Nov 11 2026. No macro, syntax, notation, axiom, sorry.
-/
import Derived.Test.Qxb6630029aChecked
import GoSem.Claim
import GoSem.ClaimJoined
import GoSem.ClaimMapViews
import Derived.JoinedTies
import Derived.KernelRfl
namespace Go.Proofs.Qxb6630029a
/- THE CELL 'sum', in the pinned program and in every row, IS THE sha256 OF THE DUMP (.gsa) THAT Qxb6630029aProg.lean LOADS. Nothing in Lean hashes anything: it is a label: what it is worth is what the hold of that sum in a sandbox is worth. -/
noncomputable def Try.pinned : Pinned := { name := "qxb6630029a", sum := "fb0bfc79210fecd0ff2659bdac388458cbcb0b46c4ffe0cc6d9f4d356a4b7f5d", checked := Try.checked }
namespace Rows
def none {H : Type} : Left H := { results := [], args := [] }

/-- 'zzlaws_internal_pattern_b1.FnChargeScriptHoldsLongestPrefixWithinLimit': WHATEVER THE INPUT: true; the input reads as it did. -/
def fnChargeScriptHoldsLongestPrefixWithinLimitSpec : ChangeSpec := { name := "fnChargeScriptHoldsLongestPrefixWithinLimit", fn := fun _ => fun
  | [d] => { results := [.lit (.bool true)], args := [d] }
  | _ => none }
def fnChargeScriptHoldsLongestPrefixWithinLimitRow : OpenClaim := { program := "qxb6630029a", sum := "fb0bfc79210fecd0ff2659bdac388458cbcb0b46c4ffe0cc6d9f4d356a4b7f5d", func := "example.com/nereus/nereus/zzlaws_internal_pattern_b1.FnChargeScriptHoldsLongestPrefixWithinLimit", spec := "fnChargeScriptHoldsLongestPrefixWithinLimit", apart := false }
def FnChargeScriptHoldsLongestPrefixWithinLimitSaid : Prop := fnChargeScriptHoldsLongestPrefixWithinLimitRow.holds Try.pinned (OpenSpec.ofChange fnChargeScriptHoldsLongestPrefixWithinLimitSpec)

/-- ITS FALSE NEIGHBOUR: 'it returns false'. Refute it at one input. -/
def fnChargeScriptHoldsLongestPrefixWithinLimitWrong : ChangeSpec := { name := "fnChargeScriptHoldsLongestPrefixWithinLimit", fn := fun _ => fun
  | [d] => { results := [.lit (.bool false)], args := [d] }
  | _ => none }
def FnChargeScriptHoldsLongestPrefixWithinLimitWrongFalsely : Prop := fnChargeScriptHoldsLongestPrefixWithinLimitRow.holds Try.pinned (OpenSpec.ofChange fnChargeScriptHoldsLongestPrefixWithinLimitWrong)

/-- 'zzlaws_internal_pattern_b1.FnChargeOneByOneAgreesWithLumpSum': WHATEVER THE INPUT: true; the input reads as it did. -/
def fnChargeOneByOneAgreesWithLumpSumSpec : ChangeSpec := { name := "fnChargeOneByOneAgreesWithLumpSum", fn := fun _ => fun
  | [d1, d2] => { results := [.lit (.bool true)], args := [d1, d2] }
  | _ => none }
def fnChargeOneByOneAgreesWithLumpSumRow : OpenClaim := { program := "qxb6630029a", sum := "fb0bfc79210fecd0ff2659bdac388458cbcb0b46c4ffe0cc6d9f4d356a4b7f5d", func := "example.com/nereus/nereus/zzlaws_internal_pattern_b1.FnChargeOneByOneAgreesWithLumpSum", spec := "fnChargeOneByOneAgreesWithLumpSum", apart := false }
def FnChargeOneByOneAgreesWithLumpSumSaid : Prop := fnChargeOneByOneAgreesWithLumpSumRow.holds Try.pinned (OpenSpec.ofChange fnChargeOneByOneAgreesWithLumpSumSpec)

/-- ITS FALSE NEIGHBOUR: 'it returns false'. Refute it at one input. -/
def fnChargeOneByOneAgreesWithLumpSumWrong : ChangeSpec := { name := "fnChargeOneByOneAgreesWithLumpSum", fn := fun _ => fun
  | [d1, d2] => { results := [.lit (.bool false)], args := [d1, d2] }
  | _ => none }
def FnChargeOneByOneAgreesWithLumpSumWrongFalsely : Prop := fnChargeOneByOneAgreesWithLumpSumRow.holds Try.pinned (OpenSpec.ofChange fnChargeOneByOneAgreesWithLumpSumWrong)

end Rows
end Go.Proofs.Qxb6630029a
