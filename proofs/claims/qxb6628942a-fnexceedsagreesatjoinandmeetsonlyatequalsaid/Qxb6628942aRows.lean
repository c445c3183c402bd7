/-
  No cell of these rows narrows 'for every input' (looked for: loops, veiled, ifaces, maps, wideKeys, modest, calm, conditions, laid).
  DERIVED. THE GIVEN ROWS OF THIS SEAT. 2 by the template 'for every input the law returns true; each argument reads behind the call as it read before'; 0 by the template 'total and deterministic' (their statements: Qxb6628942aTotals.lean).
  GIVEN WITH THE SEED: the statements are not yours to turn. If you find one false, say at which input.
  Laid BY PROGRAM, IN A SANDBOX (cutbox-rows.mjs): the forced cells as the released guide's own fill.sh prints them over the translation f51345f842e0f14e… (all of the seat's roots in one cut). By AI agents, Wed Nov 11 2026. No macro, syntax, notation, axiom, sorry.
-/
import Derived.Test.Qxb6628942aChecked
import GoSem.Claim
import GoSem.ClaimJoined
import GoSem.ClaimMapViews
import Derived.JoinedTies
import Derived.KernelRfl
namespace Go.Proofs.Qxb6628942a
/- THE CELL 'sum', in the pinned program and in every row, IS THE sha256 OF THE DUMP (.gsa) THAT Qxb6628942aProg.lean LOADS. Nothing in Lean hashes anything: it is a label: what it is worth is what the hold of that sum in a sandbox is worth. -/
noncomputable def Try.pinned : Pinned := { name := "qxb6628942a", sum := "f51345f842e0f14e07c3b07458a44c1c3d3b7e45b85368a7616f0259bdfcc6f5", checked := Try.checked }
namespace Rows
def none {H : Type} : Left H := { results := [], args := [] }

/-- 'zzlaws_root_b1.FnExceedsSplitsAtAnyCut': WHATEVER THE INPUT: true; the input reads as it did. -/
def fnExceedsSplitsAtAnyCutSpec : ChangeSpec := { name := "fnExceedsSplitsAtAnyCut", fn := fun _ => fun
  | [d1, d2, d3] => { results := [.lit (.bool true)], args := [d1, d2, d3] }
  | _ => none }
def fnExceedsSplitsAtAnyCutRow : OpenClaim := { program := "qxb6628942a", sum := "f51345f842e0f14e07c3b07458a44c1c3d3b7e45b85368a7616f0259bdfcc6f5", func := "example.com/beforehand/beforehand/zzlaws_root_b1.FnExceedsSplitsAtAnyCut", spec := "fnExceedsSplitsAtAnyCut", apart := false }
def FnExceedsSplitsAtAnyCutSaid : Prop := fnExceedsSplitsAtAnyCutRow.holds Try.pinned (OpenSpec.ofChange fnExceedsSplitsAtAnyCutSpec)

/-- ITS FALSE NEIGHBOUR: 'it returns false'. Refute it at one input. -/
def fnExceedsSplitsAtAnyCutWrong : ChangeSpec := { name := "fnExceedsSplitsAtAnyCut", fn := fun _ => fun
  | [d1, d2, d3] => { results := [.lit (.bool false)], args := [d1, d2, d3] }
  | _ => none }
def FnExceedsSplitsAtAnyCutWrongFalsely : Prop := fnExceedsSplitsAtAnyCutRow.holds Try.pinned (OpenSpec.ofChange fnExceedsSplitsAtAnyCutWrong)

/-- 'zzlaws_root_b1.FnExceedsAgreesAtJoinAndMeetsOnlyAtEqual': WHATEVER THE INPUT: true; the input reads as it did. -/
def fnExceedsAgreesAtJoinAndMeetsOnlyAtEqualSpec : ChangeSpec := { name := "fnExceedsAgreesAtJoinAndMeetsOnlyAtEqual", fn := fun _ => fun
  | [d1, d2] => { results := [.lit (.bool true)], args := [d1, d2] }
  | _ => none }
def fnExceedsAgreesAtJoinAndMeetsOnlyAtEqualRow : OpenClaim := { program := "qxb6628942a", sum := "f51345f842e0f14e07c3b07458a44c1c3d3b7e45b85368a7616f0259bdfcc6f5", func := "example.com/beforehand/beforehand/zzlaws_root_b1.FnExceedsAgreesAtJoinAndMeetsOnlyAtEqual", spec := "fnExceedsAgreesAtJoinAndMeetsOnlyAtEqual", apart := false }
def FnExceedsAgreesAtJoinAndMeetsOnlyAtEqualSaid : Prop := fnExceedsAgreesAtJoinAndMeetsOnlyAtEqualRow.holds Try.pinned (OpenSpec.ofChange fnExceedsAgreesAtJoinAndMeetsOnlyAtEqualSpec)

/-- ITS FALSE NEIGHBOUR: 'it returns false'. Refute it at one input. -/
def fnExceedsAgreesAtJoinAndMeetsOnlyAtEqualWrong : ChangeSpec := { name := "fnExceedsAgreesAtJoinAndMeetsOnlyAtEqual", fn := fun _ => fun
  | [d1, d2] => { results := [.lit (.bool false)], args := [d1, d2] }
  | _ => none }
def FnExceedsAgreesAtJoinAndMeetsOnlyAtEqualWrongFalsely : Prop := fnExceedsAgreesAtJoinAndMeetsOnlyAtEqualRow.holds Try.pinned (OpenSpec.ofChange fnExceedsAgreesAtJoinAndMeetsOnlyAtEqualWrong)

end Rows
end Go.Proofs.Qxb6628942a
