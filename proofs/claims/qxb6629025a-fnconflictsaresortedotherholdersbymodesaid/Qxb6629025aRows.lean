/-
  No cell of these rows narrows 'for every input' (looked for: loops, veiled, ifaces, maps, wideKeys, modest, calm, conditions, laid).
  DERIVED. THE GIVEN ROWS OF THIS SEAT. 2 by the template 'for every input the law returns true; each argument reads behind the call as it read before'; 0 by the template 'total and deterministic' (their statements: Qxb6629025aTotals.lean).
  GIVEN WITH THE SEED: the statements are not yours to turn. If you find one false, say at which input.
  Laid BY PROGRAM, IN A SANDBOX (cutbox-rows.mjs): the forced cells as the released guide's own fill.sh prints them over the translation 782db93e5c39f123… (all of the seat's roots in one cut). By AI agents, Wed Nov 11 2026. No macro, syntax, notation, axiom, sorry.
-/
import Derived.Test.Qxb6629025aChecked
import GoSem.Claim
import GoSem.ClaimJoined
import GoSem.ClaimMapViews
import Derived.JoinedTies
import Derived.KernelRfl
namespace Go.Proofs.Qxb6629025a
/- THE CELL 'sum', in the pinned program and in every row, IS THE sha256 OF THE DUMP (.gsa) THAT Qxb6629025aProg.lean LOADS. Nothing in Lean hashes anything: it is a label: what it is worth is what the hold of that sum in a sandbox is worth. -/
noncomputable def Try.pinned : Pinned := { name := "qxb6629025a", sum := "782db93e5c39f12386b27722d3d867e80631dd32b792e2fcb54b282831e85393", checked := Try.checked }
namespace Rows
def none {H : Type} : Left H := { results := [], args := [] }

/-- 'zzlaws_internal_lock_b1.FnConflictsAreSortedOtherHoldersByMode': WHATEVER THE INPUT: true; the input reads as it did. -/
def fnConflictsAreSortedOtherHoldersByModeSpec : ChangeSpec := { name := "fnConflictsAreSortedOtherHoldersByMode", fn := fun _ => fun
  | [d1, d2, d3, d4, d5, d6, d7, d8] => { results := [.lit (.bool true)], args := [d1, d2, d3, d4, d5, d6, d7, d8] }
  | _ => none }
def fnConflictsAreSortedOtherHoldersByModeRow : OpenClaim := { program := "qxb6629025a", sum := "782db93e5c39f12386b27722d3d867e80631dd32b792e2fcb54b282831e85393", func := "example.com/gradus/gradus/zzlaws_internal_lock_b1.FnConflictsAreSortedOtherHoldersByMode", spec := "fnConflictsAreSortedOtherHoldersByMode", recurses := true, apart := false }
def FnConflictsAreSortedOtherHoldersByModeSaid : Prop := fnConflictsAreSortedOtherHoldersByModeRow.holds Try.pinned (OpenSpec.ofChange fnConflictsAreSortedOtherHoldersByModeSpec)

/-- ITS FALSE NEIGHBOUR: 'it returns false'. Refute it at one input. -/
def fnConflictsAreSortedOtherHoldersByModeWrong : ChangeSpec := { name := "fnConflictsAreSortedOtherHoldersByMode", fn := fun _ => fun
  | [d1, d2, d3, d4, d5, d6, d7, d8] => { results := [.lit (.bool false)], args := [d1, d2, d3, d4, d5, d6, d7, d8] }
  | _ => none }
def FnConflictsAreSortedOtherHoldersByModeWrongFalsely : Prop := fnConflictsAreSortedOtherHoldersByModeRow.holds Try.pinned (OpenSpec.ofChange fnConflictsAreSortedOtherHoldersByModeWrong)

/-- 'zzlaws_internal_lock_b1.FnConflictsOneLockAdded': WHATEVER THE INPUT: true; the input reads as it did. -/
def fnConflictsOneLockAddedSpec : ChangeSpec := { name := "fnConflictsOneLockAdded", fn := fun _ => fun
  | [d1, d2, d3, d4, d5, d6, d7] => { results := [.lit (.bool true)], args := [d1, d2, d3, d4, d5, d6, d7] }
  | _ => none }
def fnConflictsOneLockAddedRow : OpenClaim := { program := "qxb6629025a", sum := "782db93e5c39f12386b27722d3d867e80631dd32b792e2fcb54b282831e85393", func := "example.com/gradus/gradus/zzlaws_internal_lock_b1.FnConflictsOneLockAdded", spec := "fnConflictsOneLockAdded", recurses := true, apart := false }
def FnConflictsOneLockAddedSaid : Prop := fnConflictsOneLockAddedRow.holds Try.pinned (OpenSpec.ofChange fnConflictsOneLockAddedSpec)

/-- ITS FALSE NEIGHBOUR: 'it returns false'. Refute it at one input. -/
def fnConflictsOneLockAddedWrong : ChangeSpec := { name := "fnConflictsOneLockAdded", fn := fun _ => fun
  | [d1, d2, d3, d4, d5, d6, d7] => { results := [.lit (.bool false)], args := [d1, d2, d3, d4, d5, d6, d7] }
  | _ => none }
def FnConflictsOneLockAddedWrongFalsely : Prop := fnConflictsOneLockAddedRow.holds Try.pinned (OpenSpec.ofChange fnConflictsOneLockAddedWrong)

end Rows
end Go.Proofs.Qxb6629025a
