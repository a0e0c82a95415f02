/-
  No cell of these rows narrows 'for every input' (looked for: loops, veiled, ifaces, maps, wideKeys, modest, calm, conditions, laid).
  DERIVED. THE GIVEN ROWS OF THIS SEAT. 2 by the template 'for every input the law returns true; each argument reads behind the call as it read before'; 0 by the template 'total and deterministic' (their statements: Qxb6612472aTotals.lean).
  GIVEN WITH THE SEED: the statements are not yours to turn. If you find one false, say at which input.
  Laid BY PROGRAM, IN A SANDBOX (cutbox-rows.mjs): the forced cells as the released guide's own fill.sh prints them over the translation 700aaf285afb918e… (all of the seat's roots in one cut). By AI agents, Wed Nov 11 2026. No macro, syntax, notation, axiom, sorry.
-/
import Derived.Test.Qxb6612472aChecked
import GoSem.Claim
import GoSem.ClaimJoined
import GoSem.ClaimMapViews
import Derived.JoinedTies
import Derived.KernelRfl
namespace Go.Proofs.Qxb6612472a
/- THE CELL 'sum', in the pinned program and in every row, IS THE sha256 OF THE DUMP (.gsa) THAT Qxb6612472aProg.lean LOADS. Nothing in Lean hashes anything: it is a label: what it is worth is what the hold of that sum in a sandbox is worth. -/
noncomputable def Try.pinned : Pinned := { name := "qxb6612472a", sum := "700aaf285afb918ed65b15e861851c7f719b4497ef1c2f341c0abe6a8e283c7f", checked := Try.checked }
namespace Rows
def none {H : Type} : Left H := { results := [], args := [] }

/-- 'zzlaws_root_b1.FnStartsAtomAcceptsTheAtomClassesAndRefusesSixteen': WHATEVER THE INPUT: true; the input reads as it did. -/
def fnStartsAtomAcceptsTheAtomClassesAndRefusesSixteenSpec : ChangeSpec := { name := "fnStartsAtomAcceptsTheAtomClassesAndRefusesSixteen", fn := fun _ => fun
  | [d] => { results := [.lit (.bool true)], args := [d] }
  | _ => none }
def fnStartsAtomAcceptsTheAtomClassesAndRefusesSixteenRow : OpenClaim := { program := "qxb6612472a", sum := "700aaf285afb918ed65b15e861851c7f719b4497ef1c2f341c0abe6a8e283c7f", func := "example.com/readwell/readwell/zzlaws_root_b1.FnStartsAtomAcceptsTheAtomClassesAndRefusesSixteen", spec := "fnStartsAtomAcceptsTheAtomClassesAndRefusesSixteen", apart := false }
def FnStartsAtomAcceptsTheAtomClassesAndRefusesSixteenSaid : Prop := fnStartsAtomAcceptsTheAtomClassesAndRefusesSixteenRow.holds Try.pinned (OpenSpec.ofChange fnStartsAtomAcceptsTheAtomClassesAndRefusesSixteenSpec)

/-- ITS FALSE NEIGHBOUR: 'it returns false'. Refute it at one input. -/
def fnStartsAtomAcceptsTheAtomClassesAndRefusesSixteenWrong : ChangeSpec := { name := "fnStartsAtomAcceptsTheAtomClassesAndRefusesSixteen", fn := fun _ => fun
  | [d] => { results := [.lit (.bool false)], args := [d] }
  | _ => none }
def FnStartsAtomAcceptsTheAtomClassesAndRefusesSixteenWrongFalsely : Prop := fnStartsAtomAcceptsTheAtomClassesAndRefusesSixteenRow.holds Try.pinned (OpenSpec.ofChange fnStartsAtomAcceptsTheAtomClassesAndRefusesSixteenWrong)

/-- 'zzlaws_root_b1.FnAdvanceOverARunCountsLinesAndColumns': WHATEVER THE INPUT: true; the input reads as it did. -/
def fnAdvanceOverARunCountsLinesAndColumnsSpec : ChangeSpec := { name := "fnAdvanceOverARunCountsLinesAndColumns", fn := fun _ => fun
  | [d1, d2, d3, d4, d5] => { results := [.lit (.bool true)], args := [d1, d2, d3, d4, d5] }
  | _ => none }
def fnAdvanceOverARunCountsLinesAndColumnsRow : OpenClaim := { program := "qxb6612472a", sum := "700aaf285afb918ed65b15e861851c7f719b4497ef1c2f341c0abe6a8e283c7f", func := "example.com/readwell/readwell/zzlaws_root_b1.FnAdvanceOverARunCountsLinesAndColumns", spec := "fnAdvanceOverARunCountsLinesAndColumns", apart := false }
def FnAdvanceOverARunCountsLinesAndColumnsSaid : Prop := fnAdvanceOverARunCountsLinesAndColumnsRow.holds Try.pinned (OpenSpec.ofChange fnAdvanceOverARunCountsLinesAndColumnsSpec)

/-- ITS FALSE NEIGHBOUR: 'it returns false'. Refute it at one input. -/
def fnAdvanceOverARunCountsLinesAndColumnsWrong : ChangeSpec := { name := "fnAdvanceOverARunCountsLinesAndColumns", fn := fun _ => fun
  | [d1, d2, d3, d4, d5] => { results := [.lit (.bool false)], args := [d1, d2, d3, d4, d5] }
  | _ => none }
def FnAdvanceOverARunCountsLinesAndColumnsWrongFalsely : Prop := fnAdvanceOverARunCountsLinesAndColumnsRow.holds Try.pinned (OpenSpec.ofChange fnAdvanceOverARunCountsLinesAndColumnsWrong)

end Rows
end Go.Proofs.Qxb6612472a
