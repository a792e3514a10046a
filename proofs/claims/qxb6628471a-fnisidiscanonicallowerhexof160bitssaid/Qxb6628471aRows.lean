/-
  No cell of these rows narrows 'for every input' (looked for: loops, veiled, ifaces, maps, wideKeys, modest, calm, conditions, laid).
  DERIVED. THE GIVEN ROWS OF THIS SEAT. 2 by the template 'for every input the law returns true; each argument reads behind the call as it read before'; 0 by the template 'total and deterministic' (their statements: Qxb6628471aTotals.lean).
  GIVEN WITH THE SEED: the statements are not yours to turn. If you find one false, say at which input.
  Laid BY PROGRAM, IN A SANDBOX (cutbox-rows.mjs): the forced cells as the released guide's own fill.sh prints them over the translation e6dffc7768078254… (all of the seat's roots in one cut). By AI agents, Wed Nov 11 2026. No macro, syntax, notation, axiom, sorry.
-/
import Derived.Test.Qxb6628471aChecked
import GoSem.Claim
import GoSem.ClaimJoined
import GoSem.ClaimMapViews
import Derived.JoinedTies
import Derived.KernelRfl
namespace Go.Proofs.Qxb6628471a
/- THE CELL 'sum', in the pinned program and in every row, IS THE sha256 OF THE DUMP (.gsa) THAT Qxb6628471aProg.lean LOADS. Nothing in Lean hashes anything: it is a label: what it is worth is what the hold of that sum in a sandbox is worth. -/
noncomputable def Try.pinned : Pinned := { name := "qxb6628471a", sum := "e6dffc7768078254e05e04b19274aaf7e1c6320e65c0fe226b7977b18c5e1fc8", checked := Try.checked }
namespace Rows
def none {H : Type} : Left H := { results := [], args := [] }

/-- 'zzlaws_cluster_b1.FnIsIDIsCanonicalLowerHexOf160Bits': WHATEVER THE INPUT: true; the input reads as it did. -/
def fnIsIDIsCanonicalLowerHexOf160BitsSpec : ChangeSpec := { name := "fnIsIDIsCanonicalLowerHexOf160Bits", fn := fun _ => fun
  | [d] => { results := [.lit (.bool true)], args := [d] }
  | _ => none }
def fnIsIDIsCanonicalLowerHexOf160BitsRow : OpenClaim := { program := "qxb6628471a", sum := "e6dffc7768078254e05e04b19274aaf7e1c6320e65c0fe226b7977b18c5e1fc8", func := "example.com/epochtrace/epochtrace/zzlaws_cluster_b1.FnIsIDIsCanonicalLowerHexOf160Bits", spec := "fnIsIDIsCanonicalLowerHexOf160Bits", apart := false }
def FnIsIDIsCanonicalLowerHexOf160BitsSaid : Prop := fnIsIDIsCanonicalLowerHexOf160BitsRow.holds Try.pinned (OpenSpec.ofChange fnIsIDIsCanonicalLowerHexOf160BitsSpec)

/-- ITS FALSE NEIGHBOUR: 'it returns false'. Refute it at one input. -/
def fnIsIDIsCanonicalLowerHexOf160BitsWrong : ChangeSpec := { name := "fnIsIDIsCanonicalLowerHexOf160Bits", fn := fun _ => fun
  | [d] => { results := [.lit (.bool false)], args := [d] }
  | _ => none }
def FnIsIDIsCanonicalLowerHexOf160BitsWrongFalsely : Prop := fnIsIDIsCanonicalLowerHexOf160BitsRow.holds Try.pinned (OpenSpec.ofChange fnIsIDIsCanonicalLowerHexOf160BitsWrong)

/-- 'zzlaws_cluster_b1.FnIsIDSplitsAtAnyCut': WHATEVER THE INPUT: true; the input reads as it did. -/
def fnIsIDSplitsAtAnyCutSpec : ChangeSpec := { name := "fnIsIDSplitsAtAnyCut", fn := fun _ => fun
  | [d1, d2] => { results := [.lit (.bool true)], args := [d1, d2] }
  | _ => none }
def fnIsIDSplitsAtAnyCutRow : OpenClaim := { program := "qxb6628471a", sum := "e6dffc7768078254e05e04b19274aaf7e1c6320e65c0fe226b7977b18c5e1fc8", func := "example.com/epochtrace/epochtrace/zzlaws_cluster_b1.FnIsIDSplitsAtAnyCut", spec := "fnIsIDSplitsAtAnyCut", apart := false }
def FnIsIDSplitsAtAnyCutSaid : Prop := fnIsIDSplitsAtAnyCutRow.holds Try.pinned (OpenSpec.ofChange fnIsIDSplitsAtAnyCutSpec)

/-- ITS FALSE NEIGHBOUR: 'it returns false'. Refute it at one input. -/
def fnIsIDSplitsAtAnyCutWrong : ChangeSpec := { name := "fnIsIDSplitsAtAnyCut", fn := fun _ => fun
  | [d1, d2] => { results := [.lit (.bool false)], args := [d1, d2] }
  | _ => none }
def FnIsIDSplitsAtAnyCutWrongFalsely : Prop := fnIsIDSplitsAtAnyCutRow.holds Try.pinned (OpenSpec.ofChange fnIsIDSplitsAtAnyCutWrong)

end Rows
end Go.Proofs.Qxb6628471a
