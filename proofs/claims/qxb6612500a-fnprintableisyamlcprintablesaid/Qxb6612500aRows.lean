/-
  No cell of these rows narrows 'for every input' (looked for: loops, veiled, ifaces, maps, wideKeys, modest, calm, conditions, laid).
  DERIVED. THE GIVEN ROWS OF THIS SEAT. 1 by the template 'for every input the law returns true; each argument reads behind the call as it read before'; 0 by the template 'total and deterministic' (their statements: Qxb6612500aTotals.lean).
  GIVEN WITH THE SEED: the statements are not yours to turn. If you find one false, say at which input.
  Laid BY PROGRAM, IN A SANDBOX (cutbox-rows.mjs): the forced cells as the released guide's own fill.sh prints them over the translation fc18dd9d66e4408c… (all of the seat's roots in one cut). By AI agents, Wed Nov 11 2026. No macro, syntax, notation, axiom, sorry.
-/
import Derived.Test.Qxb6612500aChecked
import GoSem.Claim
import GoSem.ClaimJoined
import GoSem.ClaimMapViews
import Derived.JoinedTies
import Derived.KernelRfl
namespace Go.Proofs.Qxb6612500a
/- THE CELL 'sum', in the pinned program and in every row, IS THE sha256 OF THE DUMP (.gsa) THAT Qxb6612500aProg.lean LOADS. Nothing in Lean hashes anything: it is a label: what it is worth is what the hold of that sum in a sandbox is worth. -/
noncomputable def Try.pinned : Pinned := { name := "qxb6612500a", sum := "fc18dd9d66e4408cd2ecfffee929ecac6a87e5748efbe4d2fdf2d2143d93f98f", checked := Try.checked }
namespace Rows
def none {H : Type} : Left H := { results := [], args := [] }

/-- 'zzlaws_yamlfile_b1.FnPrintableIsYAMLCPrintable': WHATEVER THE INPUT: true; the input reads as it did. -/
def fnPrintableIsYAMLCPrintableSpec : ChangeSpec := { name := "fnPrintableIsYAMLCPrintable", fn := fun _ => fun
  | [d] => { results := [.lit (.bool true)], args := [d] }
  | _ => none }
def fnPrintableIsYAMLCPrintableRow : OpenClaim := { program := "qxb6612500a", sum := "fc18dd9d66e4408cd2ecfffee929ecac6a87e5748efbe4d2fdf2d2143d93f98f", func := "example.com/gatefold/gatefold/zzlaws_yamlfile_b1.FnPrintableIsYAMLCPrintable", spec := "fnPrintableIsYAMLCPrintable", apart := false }
def FnPrintableIsYAMLCPrintableSaid : Prop := fnPrintableIsYAMLCPrintableRow.holds Try.pinned (OpenSpec.ofChange fnPrintableIsYAMLCPrintableSpec)

/-- ITS FALSE NEIGHBOUR: 'it returns false'. Refute it at one input. -/
def fnPrintableIsYAMLCPrintableWrong : ChangeSpec := { name := "fnPrintableIsYAMLCPrintable", fn := fun _ => fun
  | [d] => { results := [.lit (.bool false)], args := [d] }
  | _ => none }
def FnPrintableIsYAMLCPrintableWrongFalsely : Prop := fnPrintableIsYAMLCPrintableRow.holds Try.pinned (OpenSpec.ofChange fnPrintableIsYAMLCPrintableWrong)

end Rows
end Go.Proofs.Qxb6612500a
