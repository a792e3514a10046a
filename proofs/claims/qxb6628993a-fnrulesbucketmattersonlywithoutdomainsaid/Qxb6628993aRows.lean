/-
  No cell of these rows narrows 'for every input' (looked for: loops, veiled, ifaces, maps, wideKeys, modest, calm, conditions, laid).
  DERIVED. THE GIVEN ROWS OF THIS SEAT. 2 by the template 'for every input the law returns true; each argument reads behind the call as it read before'; 0 by the template 'total and deterministic' (their statements: Qxb6628993aTotals.lean).
  GIVEN WITH THE SEED: the statements are not yours to turn. If you find one false, say at which input.
  Laid BY PROGRAM, IN A SANDBOX (cutbox-rows.mjs): the forced cells as the released guide's own fill.sh prints them over the translation ba1ff3d4123a9141… (all of the seat's roots in one cut). By AI agents, Wed Nov 11 2026. No macro, syntax, notation, axiom, sorry.
-/
import Derived.Test.Qxb6628993aChecked
import GoSem.Claim
import GoSem.ClaimJoined
import GoSem.ClaimMapViews
import Derived.JoinedTies
import Derived.KernelRfl
namespace Go.Proofs.Qxb6628993a
/- THE CELL 'sum', in the pinned program and in every row, IS THE sha256 OF THE DUMP (.gsa) THAT Qxb6628993aProg.lean LOADS. Nothing in Lean hashes anything: it is a label: what it is worth is what the hold of that sum in a sandbox is worth. -/
noncomputable def Try.pinned : Pinned := { name := "qxb6628993a", sum := "ba1ff3d4123a9141abc3c5b11fb614c5adcad28093a0bd3b3daffa50545914e2", checked := Try.checked }
namespace Rows
def none {H : Type} : Left H := { results := [], args := [] }

/-- 'zzlaws_root_b1.FnRulesFallbackComposes': WHATEVER THE INPUT: true; the input reads as it did. -/
def fnRulesFallbackComposesSpec : ChangeSpec := { name := "fnRulesFallbackComposes", fn := fun _ => fun
  | [d1, d2, d3, d4, d5] => { results := [.lit (.bool true)], args := [d1, d2, d3, d4, d5] }
  | _ => none }
def fnRulesFallbackComposesRow : OpenClaim := { program := "qxb6628993a", sum := "ba1ff3d4123a9141abc3c5b11fb614c5adcad28093a0bd3b3daffa50545914e2", func := "example.com/placewright/placewright/zzlaws_root_b1.FnRulesFallbackComposes", spec := "fnRulesFallbackComposes", apart := false }
def FnRulesFallbackComposesSaid : Prop := fnRulesFallbackComposesRow.holds Try.pinned (OpenSpec.ofChange fnRulesFallbackComposesSpec)

/-- ITS FALSE NEIGHBOUR: 'it returns false'. Refute it at one input. -/
def fnRulesFallbackComposesWrong : ChangeSpec := { name := "fnRulesFallbackComposes", fn := fun _ => fun
  | [d1, d2, d3, d4, d5] => { results := [.lit (.bool false)], args := [d1, d2, d3, d4, d5] }
  | _ => none }
def FnRulesFallbackComposesWrongFalsely : Prop := fnRulesFallbackComposesRow.holds Try.pinned (OpenSpec.ofChange fnRulesFallbackComposesWrong)

/-- 'zzlaws_root_b1.FnRulesBucketMattersOnlyWithoutDomain': WHATEVER THE INPUT: true; the input reads as it did. -/
def fnRulesBucketMattersOnlyWithoutDomainSpec : ChangeSpec := { name := "fnRulesBucketMattersOnlyWithoutDomain", fn := fun _ => fun
  | [d1, d2, d3, d4, d5] => { results := [.lit (.bool true)], args := [d1, d2, d3, d4, d5] }
  | _ => none }
def fnRulesBucketMattersOnlyWithoutDomainRow : OpenClaim := { program := "qxb6628993a", sum := "ba1ff3d4123a9141abc3c5b11fb614c5adcad28093a0bd3b3daffa50545914e2", func := "example.com/placewright/placewright/zzlaws_root_b1.FnRulesBucketMattersOnlyWithoutDomain", spec := "fnRulesBucketMattersOnlyWithoutDomain", apart := false }
def FnRulesBucketMattersOnlyWithoutDomainSaid : Prop := fnRulesBucketMattersOnlyWithoutDomainRow.holds Try.pinned (OpenSpec.ofChange fnRulesBucketMattersOnlyWithoutDomainSpec)

/-- ITS FALSE NEIGHBOUR: 'it returns false'. Refute it at one input. -/
def fnRulesBucketMattersOnlyWithoutDomainWrong : ChangeSpec := { name := "fnRulesBucketMattersOnlyWithoutDomain", fn := fun _ => fun
  | [d1, d2, d3, d4, d5] => { results := [.lit (.bool false)], args := [d1, d2, d3, d4, d5] }
  | _ => none }
def FnRulesBucketMattersOnlyWithoutDomainWrongFalsely : Prop := fnRulesBucketMattersOnlyWithoutDomainRow.holds Try.pinned (OpenSpec.ofChange fnRulesBucketMattersOnlyWithoutDomainWrong)

end Rows
end Go.Proofs.Qxb6628993a
