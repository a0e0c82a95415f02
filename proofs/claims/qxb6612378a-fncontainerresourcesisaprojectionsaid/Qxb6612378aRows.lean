/-
  No cell of these rows narrows 'for every input' (looked for: loops, veiled, ifaces, maps, wideKeys, modest, calm, conditions, laid).
  DERIVED. THE GIVEN ROWS OF THIS SEAT. 2 by the template 'for every input the law returns true; each argument reads behind the call as it read before'; 0 by the template 'total and deterministic' (their statements: Qxb6612378aTotals.lean).
  GIVEN WITH THE SEED: the statements are not yours to turn. If you find one false, say at which input.
  Laid BY PROGRAM, IN A SANDBOX (cutbox-rows.mjs): the forced cells as the released guide's own fill.sh prints them over the translation 711b3054743bb0a9… (all of the seat's roots in one cut). By AI agents, Wed Nov 11 2026. No macro, syntax, notation, axiom, sorry.
-/
import Derived.Test.Qxb6612378aChecked
import GoSem.Claim
import GoSem.ClaimJoined
import GoSem.ClaimMapViews
import Derived.JoinedTies
import Derived.KernelRfl
namespace Go.Proofs.Qxb6612378a
/- THE CELL 'sum', in the pinned program and in every row, IS THE sha256 OF THE DUMP (.gsa) THAT Qxb6612378aProg.lean LOADS. Nothing in Lean hashes anything: it is a label: what it is worth is what the hold of that sum in a sandbox is worth. -/
noncomputable def Try.pinned : Pinned := { name := "qxb6612378a", sum := "711b3054743bb0a9a483f16a80954f0daca38d2740bd3d1df2fc23dd83ccf45e", checked := Try.checked }
namespace Rows
def none {H : Type} : Left H := { results := [], args := [] }

/-- 'zzlaws_internal_objects_b1.FnContainerResourcesKeepsLimitsAndRequests': WHATEVER THE INPUT: true; the input reads as it did. -/
def fnContainerResourcesKeepsLimitsAndRequestsSpec : ChangeSpec := { name := "fnContainerResourcesKeepsLimitsAndRequests", fn := fun _ => fun
  | [d1, d2, d3, d4, d5] => { results := [.lit (.bool true)], args := [d1, d2, d3, d4, d5] }
  | _ => none }
def fnContainerResourcesKeepsLimitsAndRequestsRow : OpenClaim := { program := "qxb6612378a", sum := "711b3054743bb0a9a483f16a80954f0daca38d2740bd3d1df2fc23dd83ccf45e", func := "example.com/moorline/moorline/zzlaws_internal_objects_b1.FnContainerResourcesKeepsLimitsAndRequests", spec := "fnContainerResourcesKeepsLimitsAndRequests", apart := false }
def FnContainerResourcesKeepsLimitsAndRequestsSaid : Prop := fnContainerResourcesKeepsLimitsAndRequestsRow.holds Try.pinned (OpenSpec.ofChange fnContainerResourcesKeepsLimitsAndRequestsSpec)

/-- ITS FALSE NEIGHBOUR: 'it returns false'. Refute it at one input. -/
def fnContainerResourcesKeepsLimitsAndRequestsWrong : ChangeSpec := { name := "fnContainerResourcesKeepsLimitsAndRequests", fn := fun _ => fun
  | [d1, d2, d3, d4, d5] => { results := [.lit (.bool false)], args := [d1, d2, d3, d4, d5] }
  | _ => none }
def FnContainerResourcesKeepsLimitsAndRequestsWrongFalsely : Prop := fnContainerResourcesKeepsLimitsAndRequestsRow.holds Try.pinned (OpenSpec.ofChange fnContainerResourcesKeepsLimitsAndRequestsWrong)

/-- 'zzlaws_internal_objects_b1.FnContainerResourcesIsAProjection': WHATEVER THE INPUT: true; the input reads as it did. -/
def fnContainerResourcesIsAProjectionSpec : ChangeSpec := { name := "fnContainerResourcesIsAProjection", fn := fun _ => fun
  | [d1, d2, d3, d4, d5] => { results := [.lit (.bool true)], args := [d1, d2, d3, d4, d5] }
  | _ => none }
def fnContainerResourcesIsAProjectionRow : OpenClaim := { program := "qxb6612378a", sum := "711b3054743bb0a9a483f16a80954f0daca38d2740bd3d1df2fc23dd83ccf45e", func := "example.com/moorline/moorline/zzlaws_internal_objects_b1.FnContainerResourcesIsAProjection", spec := "fnContainerResourcesIsAProjection", apart := false }
def FnContainerResourcesIsAProjectionSaid : Prop := fnContainerResourcesIsAProjectionRow.holds Try.pinned (OpenSpec.ofChange fnContainerResourcesIsAProjectionSpec)

/-- ITS FALSE NEIGHBOUR: 'it returns false'. Refute it at one input. -/
def fnContainerResourcesIsAProjectionWrong : ChangeSpec := { name := "fnContainerResourcesIsAProjection", fn := fun _ => fun
  | [d1, d2, d3, d4, d5] => { results := [.lit (.bool false)], args := [d1, d2, d3, d4, d5] }
  | _ => none }
def FnContainerResourcesIsAProjectionWrongFalsely : Prop := fnContainerResourcesIsAProjectionRow.holds Try.pinned (OpenSpec.ofChange fnContainerResourcesIsAProjectionWrong)

end Rows
end Go.Proofs.Qxb6612378a
