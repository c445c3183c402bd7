/-
  No cell of these rows narrows 'for every input' (looked for: loops, veiled, ifaces, maps, wideKeys, modest, calm, conditions, laid).
  DERIVED. THE GIVEN ROWS OF THIS SEAT. 2 by the template 'for every input the law returns true; each argument reads behind the call as it read before'; 0 by the template 'total and deterministic' (their statements: Qxb6629996aTotals.lean).
  GIVEN WITH THE SEED: the statements are not yours to turn. If you find one false, say at which input.
  Laid BY PROGRAM, IN A SANDBOX (cutbox-rows.mjs): the forced cells as the released guide's own fill.sh prints them over the translation 2416181158d702a7… (all of the seat's roots in one cut). By AI agents, Wed Nov 11 2026. No macro, syntax, notation, axiom, sorry.
-/
import Derived.Test.Qxb6629996aChecked
import GoSem.Claim
import GoSem.ClaimJoined
import GoSem.ClaimMapViews
import Derived.JoinedTies
import Derived.KernelRfl
namespace Go.Proofs.Qxb6629996a
/- THE CELL 'sum', in the pinned program and in every row, IS THE sha256 OF THE DUMP (.gsa) THAT Qxb6629996aProg.lean LOADS. Nothing in Lean hashes anything: it is a label: what it is worth is what the hold of that sum in a sandbox is worth. -/
noncomputable def Try.pinned : Pinned := { name := "qxb6629996a", sum := "2416181158d702a71116a17a31b7e4e546ea3c58bf2c20721f579642e0d959fb", checked := Try.checked }
namespace Rows
def none {H : Type} : Left H := { results := [], args := [] }

/-- 'zzlaws_root_b1.FnParseArithNumberMatchesModel': WHATEVER THE INPUT: true; the input reads as it did. -/
def fnParseArithNumberMatchesModelSpec : ChangeSpec := { name := "fnParseArithNumberMatchesModel", fn := fun _ => fun
  | [d] => { results := [.lit (.bool true)], args := [d] }
  | _ => none }
def fnParseArithNumberMatchesModelRow : OpenClaim := { program := "qxb6629996a", sum := "2416181158d702a71116a17a31b7e4e546ea3c58bf2c20721f579642e0d959fb", func := "example.com/lines-to-settings/lines-to-settings/zzlaws_root_b1.FnParseArithNumberMatchesModel", spec := "fnParseArithNumberMatchesModel", apart := false }
def FnParseArithNumberMatchesModelSaid : Prop := fnParseArithNumberMatchesModelRow.holds Try.pinned (OpenSpec.ofChange fnParseArithNumberMatchesModelSpec)

/-- ITS FALSE NEIGHBOUR: 'it returns false'. Refute it at one input. -/
def fnParseArithNumberMatchesModelWrong : ChangeSpec := { name := "fnParseArithNumberMatchesModel", fn := fun _ => fun
  | [d] => { results := [.lit (.bool false)], args := [d] }
  | _ => none }
def FnParseArithNumberMatchesModelWrongFalsely : Prop := fnParseArithNumberMatchesModelRow.holds Try.pinned (OpenSpec.ofChange fnParseArithNumberMatchesModelWrong)

/-- 'zzlaws_root_b1.FnParseArithNumberPrefixAgreesWithBaseHash': WHATEVER THE INPUT: true; the input reads as it did. -/
def fnParseArithNumberPrefixAgreesWithBaseHashSpec : ChangeSpec := { name := "fnParseArithNumberPrefixAgreesWithBaseHash", fn := fun _ => fun
  | [d] => { results := [.lit (.bool true)], args := [d] }
  | _ => none }
def fnParseArithNumberPrefixAgreesWithBaseHashRow : OpenClaim := { program := "qxb6629996a", sum := "2416181158d702a71116a17a31b7e4e546ea3c58bf2c20721f579642e0d959fb", func := "example.com/lines-to-settings/lines-to-settings/zzlaws_root_b1.FnParseArithNumberPrefixAgreesWithBaseHash", spec := "fnParseArithNumberPrefixAgreesWithBaseHash", apart := false }
def FnParseArithNumberPrefixAgreesWithBaseHashSaid : Prop := fnParseArithNumberPrefixAgreesWithBaseHashRow.holds Try.pinned (OpenSpec.ofChange fnParseArithNumberPrefixAgreesWithBaseHashSpec)

/-- ITS FALSE NEIGHBOUR: 'it returns false'. Refute it at one input. -/
def fnParseArithNumberPrefixAgreesWithBaseHashWrong : ChangeSpec := { name := "fnParseArithNumberPrefixAgreesWithBaseHash", fn := fun _ => fun
  | [d] => { results := [.lit (.bool false)], args := [d] }
  | _ => none }
def FnParseArithNumberPrefixAgreesWithBaseHashWrongFalsely : Prop := fnParseArithNumberPrefixAgreesWithBaseHashRow.holds Try.pinned (OpenSpec.ofChange fnParseArithNumberPrefixAgreesWithBaseHashWrong)

end Rows
end Go.Proofs.Qxb6629996a
