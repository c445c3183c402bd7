/-
  No cell of these rows narrows 'for every input' (looked for: loops, veiled, ifaces, maps, wideKeys, modest, calm, conditions, laid).
  DERIVED. THE GIVEN ROWS OF THIS SEAT. 2 by the template 'for every input the law returns true; each argument reads behind the call as it read before'; 0 by the template 'total and deterministic' (their statements: Qxb6628976aTotals.lean).
  GIVEN WITH THE SEED: the statements are not yours to turn. If you find one false, say at which input.
  Laid BY PROGRAM, IN A SANDBOX (cutbox-rows.mjs): the forced cells as the released guide's own fill.sh prints them over the translation 4f73c793275cbaa1… (all of the seat's roots in one cut). By AI agents, Wed Nov 11 2026. No macro, syntax, notation, axiom, sorry.
-/
import Derived.Test.Qxb6628976aChecked
import GoSem.Claim
import GoSem.ClaimJoined
import GoSem.ClaimMapViews
import Derived.JoinedTies
import Derived.KernelRfl
namespace Go.Proofs.Qxb6628976a
/- THE CELL 'sum', in the pinned program and in every row, IS THE sha256 OF THE DUMP (.gsa) THAT Qxb6628976aProg.lean LOADS. Nothing in Lean hashes anything: it is a label: what it is worth is what the hold of that sum in a sandbox is worth. -/
noncomputable def Try.pinned : Pinned := { name := "qxb6628976a", sum := "4f73c793275cbaa130782e9eaffa14806a3164700c4792e110cf532ab5c36e11", checked := Try.checked }
namespace Rows
def none {H : Type} : Left H := { results := [], args := [] }

/-- 'zzlaws_records_b1.FnReplicaInsertAnywhere': WHATEVER THE INPUT: true; the input reads as it did. -/
def fnReplicaInsertAnywhereSpec : ChangeSpec := { name := "fnReplicaInsertAnywhere", fn := fun _ => fun
  | [d1, d2, d3, d4, d5, d6, d7, d8] => { results := [.lit (.bool true)], args := [d1, d2, d3, d4, d5, d6, d7, d8] }
  | _ => none }
def fnReplicaInsertAnywhereRow : OpenClaim := { program := "qxb6628976a", sum := "4f73c793275cbaa130782e9eaffa14806a3164700c4792e110cf532ab5c36e11", func := "example.com/holdfast/holdfast/zzlaws_records_b1.FnReplicaInsertAnywhere", spec := "fnReplicaInsertAnywhere", unfollowed := true, recurses := true, apart := false }
def FnReplicaInsertAnywhereSaid : Prop := fnReplicaInsertAnywhereRow.holds Try.pinned (OpenSpec.ofChange fnReplicaInsertAnywhereSpec)

/-- ITS FALSE NEIGHBOUR: 'it returns false'. Refute it at one input. -/
def fnReplicaInsertAnywhereWrong : ChangeSpec := { name := "fnReplicaInsertAnywhere", fn := fun _ => fun
  | [d1, d2, d3, d4, d5, d6, d7, d8] => { results := [.lit (.bool false)], args := [d1, d2, d3, d4, d5, d6, d7, d8] }
  | _ => none }
def FnReplicaInsertAnywhereWrongFalsely : Prop := fnReplicaInsertAnywhereRow.holds Try.pinned (OpenSpec.ofChange fnReplicaInsertAnywhereWrong)

/-- 'zzlaws_records_b1.FnReplicaFindsEachListedStorage': WHATEVER THE INPUT: true; the input reads as it did. -/
def fnReplicaFindsEachListedStorageSpec : ChangeSpec := { name := "fnReplicaFindsEachListedStorage", fn := fun _ => fun
  | [d1, d2, d3, d4, d5, d6] => { results := [.lit (.bool true)], args := [d1, d2, d3, d4, d5, d6] }
  | _ => none }
def fnReplicaFindsEachListedStorageRow : OpenClaim := { program := "qxb6628976a", sum := "4f73c793275cbaa130782e9eaffa14806a3164700c4792e110cf532ab5c36e11", func := "example.com/holdfast/holdfast/zzlaws_records_b1.FnReplicaFindsEachListedStorage", spec := "fnReplicaFindsEachListedStorage", unfollowed := true, recurses := true, apart := false }
def FnReplicaFindsEachListedStorageSaid : Prop := fnReplicaFindsEachListedStorageRow.holds Try.pinned (OpenSpec.ofChange fnReplicaFindsEachListedStorageSpec)

/-- ITS FALSE NEIGHBOUR: 'it returns false'. Refute it at one input. -/
def fnReplicaFindsEachListedStorageWrong : ChangeSpec := { name := "fnReplicaFindsEachListedStorage", fn := fun _ => fun
  | [d1, d2, d3, d4, d5, d6] => { results := [.lit (.bool false)], args := [d1, d2, d3, d4, d5, d6] }
  | _ => none }
def FnReplicaFindsEachListedStorageWrongFalsely : Prop := fnReplicaFindsEachListedStorageRow.holds Try.pinned (OpenSpec.ofChange fnReplicaFindsEachListedStorageWrong)

end Rows
end Go.Proofs.Qxb6628976a
