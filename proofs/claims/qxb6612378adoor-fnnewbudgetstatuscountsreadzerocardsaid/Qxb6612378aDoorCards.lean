/-
  DERIVED. GIVEN WITH THE SEED: THE CARDS: each row of Qxb6612378aDoorRows.lean that lists a variable, with what it lists TIED to the program's text (the seventh form; the later family's looks); each row that meets fmt, with fmt's text TOLD by the authors' own Lean function (tested against real Go, not proved from fmt's source: count such statements apart). THE CARD IS WHAT COUNTS. Prove the row's statement (the work); the ties are given (Qxb6612378aDoorTie.lean); close each card by the builder's one call (the guide's Derived/Test/ToyasCard.lean, 'card_holds'). Laid BY PROGRAM, IN A SANDBOX (cutbox-door.mjs). By AI agents, Wed Nov 11 2026. No macro, syntax, notation, axiom, sorry.
-/
import Derived.Test.Qxb6612378aDoorRows
import GoSem.ClaimSeven
namespace Go.Proofs.Qxb6612378aDoor
namespace Rows

/-- THE TIED CARD OF 'zzlaws_internal_objects_b1.FnInt64ValueReadsDecimalText'. -/
def fnInt64ValueReadsDecimalTextCard : Claim7 := { stood := { row := fnInt64ValueReadsDecimalTextRow, standIns := [], harness := (true, "4eb8f8af02b7863baae6a5acd553e0161f7c9120e051e031c58810789a97e546"), looks := true }, kinds := [], alts := [], laidByText := true, laidKinds := [.data, .data, .data, .sentinel, .sentinel], laidTests := true, laidLooks := .later }
def FnInt64ValueReadsDecimalTextCardSaid : Prop := Claim7.holds Tryd.pinned (.plain (OpenSpec.ofChange fnInt64ValueReadsDecimalTextSpec)) fnInt64ValueReadsDecimalTextCard

/-- THE TIED CARD OF 'zzlaws_internal_objects_b1.FnInt64ValueRoundTripsItsText'. -/
def fnInt64ValueRoundTripsItsTextCard : Claim7 := { stood := { row := fnInt64ValueRoundTripsItsTextRow, standIns := [], harness := (true, "4eb8f8af02b7863baae6a5acd553e0161f7c9120e051e031c58810789a97e546"), looks := true }, kinds := [], alts := [], laidByText := true, laidKinds := [.data, .data, .data, .sentinel, .sentinel], laidTests := true, laidLooks := .later }
def FnInt64ValueRoundTripsItsTextCardSaid : Prop := Claim7.holds Tryd.pinned (.plain (OpenSpec.ofChange fnInt64ValueRoundTripsItsTextSpec)) fnInt64ValueRoundTripsItsTextCard

/-- THE TIED CARD OF 'zzlaws_internal_objects_b1.FnNewBudgetStatusCountsReadZero'. -/
def fnNewBudgetStatusCountsReadZeroCard : Claim7 := { stood := { row := fnNewBudgetStatusCountsReadZeroRow, standIns := [], harness := (true, "4eb8f8af02b7863baae6a5acd553e0161f7c9120e051e031c58810789a97e546"), looks := true }, kinds := [], alts := [], laidByText := true, laidKinds := [.data, .data, .data, .sentinel, .sentinel], laidTests := true, laidLooks := .later }
def FnNewBudgetStatusCountsReadZeroCardSaid : Prop := Claim7.holds Tryd.pinned (.plain (OpenSpec.ofChange fnNewBudgetStatusCountsReadZeroSpec)) fnNewBudgetStatusCountsReadZeroCard
end Rows
end Go.Proofs.Qxb6612378aDoor
