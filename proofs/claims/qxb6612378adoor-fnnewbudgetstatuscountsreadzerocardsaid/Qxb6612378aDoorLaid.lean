import Derived.Test.Qxb6612378aDoorModel
import Derived.Stop.LaidErr
import Derived.LaidMore
import Derived.MakeChecks
import Derived.WalkSmall
namespace Go.Proofs.Qxb6612378aDoor
open Go.RowKit

/-- The listed variables, as every row of this seat lists them. -/
def laid5 : List (String × DataW Unit) := Rows.fnInt64ValueReadsDecimalTextRow.laid

def nameOf : DataW Unit → String
  | .iface n _ => n
  | _ => ""
/-- The name of the sentinels' dynamic type, as the rows have it. -/
def errName : String := nameOf Rows.laid_strconv_ErrRange

theorem gSyn : Tryd.prog.globalNamed "strconv.ErrSyntax" = some 0 := by kernel_rfl
theorem gRng : Tryd.prog.globalNamed "strconv.ErrRange" = some 1 := by kernel_rfl
theorem gSynT : (Tryd.prog.globals[0]?).map (·.type) = some 44 := by kernel_rfl
theorem gRngT : (Tryd.prog.globals[1]?).map (·.type) = some 44 := by kernel_rfl
theorem cells65 : Tryd.prog.cellsOf 65 = 1 := by kernel_rfl
theorem cells9 : Tryd.prog.cellsOf 9 = 1 := by kernel_rfl
theorem row63 (u : TypeId) (h : Tryd.prog.typeName? 3 u = some errName) : u = 63 :=
  typeName_ptr_named (nm := "errors.errorString") (by kernel_rfl) (by kernel_rfl) (by decide) u (h.trans (congrArg some (by kernel_rfl)))

/-- What the rows' condition gives the walks. -/
theorem errs_of_laid {W : World} (h : laidMetH Tryd.prog laid5 W) : Errs W := by
  rw [MakeChecks.laidMetH_plain _ _ _ (by kernel_rfl)] at h
  have h' : laidMet Tryd.prog [("strconv.ErrRange", Rows.laid_strconv_ErrRange), ("strconv.ErrSyntax", Rows.laid_strconv_ErrSyntax)] W := h.tail.tail.tail
  obtain ⟨a1, s1, hv1, -, -, -⟩ := laid_sentinel h' gRng gRngT Tryd.underlying44 row63 Tryd.underlying63 Tryd.underlying65 rfl rfl Tryd.underlying9 cells65 cells9
  obtain ⟨a0, s0, hv0, -, -, -⟩ := laid_sentinel h'.tail gSyn gSynT Tryd.underlying44 row63 Tryd.underlying63 Tryd.underlying65 rfl rfl Tryd.underlying9 cells65 cells9
  exact ⟨⟨_, _, hv0⟩, ⟨_, _, hv1⟩⟩

theorem errs_below {B : Nat} {W W' : World} (hE : Errs W) (hb : Below B W W') (hB : 2 ≤ B) : Errs W' := by
  obtain ⟨⟨t0, p0, h0⟩, ⟨t1, p1, h1⟩⟩ := hE
  exact ⟨⟨t0, p0, var?_below hb gSyn (by omega) h0⟩, ⟨t1, p1, var?_below hb gRng (by omega) h1⟩⟩

theorem errs_size {W : World} (hE : Errs W) : 2 ≤ W.heap.size := by
  obtain ⟨_, ⟨t1, p1, h1⟩⟩ := hE
  have hc := World.var?_cell gRng h1 0
  simp at hc
  rcases Nat.lt_or_ge 1 W.heap.size with h0 | h0
  · exact h0
  · have e : W.heap[1]? = none := by simp; omega
    simp [World.cell?, e] at hc

/-- The door's own heap meets the rows' condition. -/
theorem door_met (os : Os) (args : Array Value) : laidMetH Tryd.prog laid5 ((World.doorLaid Tryd.prog 62 os).forCall (fun _ _ => 0) ⟨#[], args, []⟩).memory :=
  laidMetH_of_parts3 (fuel := 8) (laidMet_of_run' 8 (by kernel_rfl) (by kernel_rfl)) (by kernel_rfl) (by kernel_rfl)

theorem own_knob : ownKnob Tryd.prog.godebug = none := by kernel_rfl
theorem laid_out : laidOutB Tryd.prog = true := by kernel_rfl

end Go.Proofs.Qxb6612378aDoor
