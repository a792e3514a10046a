/-
  No cell of these rows narrows 'for every input' (looked for: loops, veiled, ifaces, maps, wideKeys, modest, calm, conditions, laid).
  DERIVED. THE GIVEN ROWS OF THIS SEAT. 2 by the template 'for every input the law returns true; each argument reads behind the call as it read before'; 0 by the template 'total and deterministic' (their statements: Qxb6629065aTotals.lean).
  GIVEN WITH THE SEED: the statements are not yours to turn. If you find one false, say at which input.
  Laid BY PROGRAM, IN A SANDBOX (cutbox-rows.mjs): the forced cells as the released guide's own fill.sh prints them over the translation a8c35fd471b5e2b5… (all of the seat's roots in one cut). By AI agents, Wed Nov 11 2026. No macro, syntax, notation, axiom, sorry.
-/
import Derived.Test.Qxb6629065aChecked
import GoSem.Claim
import GoSem.ClaimJoined
import GoSem.ClaimMapViews
import Derived.JoinedTies
import Derived.KernelRfl
namespace Go.Proofs.Qxb6629065a
/- THE CELL 'sum', in the pinned program and in every row, IS THE sha256 OF THE DUMP (.gsa) THAT Qxb6629065aProg.lean LOADS. Nothing in Lean hashes anything: it is a label: what it is worth is what the hold of that sum in a sandbox is worth. -/
noncomputable def Try.pinned : Pinned := { name := "qxb6629065a", sum := "a8c35fd471b5e2b51e9909a700b765dc2c792164283862567380c836292d6eef", checked := Try.checked }
namespace Rows
def none {H : Type} : Left H := { results := [], args := [] }

/-- 'zzlaws_internal_rice_b1.FnParameterIsFirstKWhereOneMoreBitSavesTooLittle': WHATEVER THE INPUT: true; the input reads as it did. -/
def fnParameterIsFirstKWhereOneMoreBitSavesTooLittleSpec : ChangeSpec := { name := "fnParameterIsFirstKWhereOneMoreBitSavesTooLittle", fn := fun _ => fun
  | [d] => { results := [.lit (.bool true)], args := [d] }
  | _ => none }
def fnParameterIsFirstKWhereOneMoreBitSavesTooLittleRow : OpenClaim := { program := "qxb6629065a", sum := "a8c35fd471b5e2b51e9909a700b765dc2c792164283862567380c836292d6eef", func := "example.com/hashwarden/hashwarden/zzlaws_internal_rice_b1.FnParameterIsFirstKWhereOneMoreBitSavesTooLittle", spec := "fnParameterIsFirstKWhereOneMoreBitSavesTooLittle", apart := false }
def FnParameterIsFirstKWhereOneMoreBitSavesTooLittleSaid : Prop := fnParameterIsFirstKWhereOneMoreBitSavesTooLittleRow.holds Try.pinned (OpenSpec.ofChange fnParameterIsFirstKWhereOneMoreBitSavesTooLittleSpec)

/-- ITS FALSE NEIGHBOUR: 'it returns false'. Refute it at one input. -/
def fnParameterIsFirstKWhereOneMoreBitSavesTooLittleWrong : ChangeSpec := { name := "fnParameterIsFirstKWhereOneMoreBitSavesTooLittle", fn := fun _ => fun
  | [d] => { results := [.lit (.bool false)], args := [d] }
  | _ => none }
def FnParameterIsFirstKWhereOneMoreBitSavesTooLittleWrongFalsely : Prop := fnParameterIsFirstKWhereOneMoreBitSavesTooLittleRow.holds Try.pinned (OpenSpec.ofChange fnParameterIsFirstKWhereOneMoreBitSavesTooLittleWrong)

/-- 'zzlaws_internal_rice_b1.FnParameterDoublingDeltasRaisesParameterByOne': WHATEVER THE INPUT: true; the input reads as it did. -/
def fnParameterDoublingDeltasRaisesParameterByOneSpec : ChangeSpec := { name := "fnParameterDoublingDeltasRaisesParameterByOne", fn := fun _ => fun
  | [d] => { results := [.lit (.bool true)], args := [d] }
  | _ => none }
def fnParameterDoublingDeltasRaisesParameterByOneRow : OpenClaim := { program := "qxb6629065a", sum := "a8c35fd471b5e2b51e9909a700b765dc2c792164283862567380c836292d6eef", func := "example.com/hashwarden/hashwarden/zzlaws_internal_rice_b1.FnParameterDoublingDeltasRaisesParameterByOne", spec := "fnParameterDoublingDeltasRaisesParameterByOne", apart := false }
def FnParameterDoublingDeltasRaisesParameterByOneSaid : Prop := fnParameterDoublingDeltasRaisesParameterByOneRow.holds Try.pinned (OpenSpec.ofChange fnParameterDoublingDeltasRaisesParameterByOneSpec)

/-- ITS FALSE NEIGHBOUR: 'it returns false'. Refute it at one input. -/
def fnParameterDoublingDeltasRaisesParameterByOneWrong : ChangeSpec := { name := "fnParameterDoublingDeltasRaisesParameterByOne", fn := fun _ => fun
  | [d] => { results := [.lit (.bool false)], args := [d] }
  | _ => none }
def FnParameterDoublingDeltasRaisesParameterByOneWrongFalsely : Prop := fnParameterDoublingDeltasRaisesParameterByOneRow.holds Try.pinned (OpenSpec.ofChange fnParameterDoublingDeltasRaisesParameterByOneWrong)

end Rows
end Go.Proofs.Qxb6629065a
