import Derived.Test.Qxb6612378aDoorLaid
namespace Go.Proofs.Qxb6612378aDoor
open Go.RowKit

/-- It returns one bool. -/
def BoolRet (e : Ending) : Prop := ∃ x : Bool, e = .returned (.bool x)
theorem BoolRet.mk (x : Bool) : BoolRet (.returned (.bool x)) := ⟨x, rfl⟩

theorem bytes6_any (s : ByteArray) (w : World) (hs : s.size ≤ maxLen) : Calls Tryd.prog 6 #[.string s] w fun e w' => BoolRet e ∧ w = w' := by
  unfold maxLen at hs
  go_enter Tryd.func6, Tryd.ntmps6
  go_wp2
  all_goals
    go_ret
    exact ⟨BoolRet.mk _, rfl⟩

theorem law3_walk (s : ByteArray) (w : World) (hs : s.size ≤ maxLen) (hE : Errs w) :
    Calls Tryd.prog 3 #[.string s] w fun e w' => e = .returned (.bool true) ∧ Below w.heap.size w w' := by
  go_enter Tryd.func3, Tryd.ntmps3
  go_wp2_with fail
  refine (bytes6_any s w hs).mono ?_
  rintro e w' ⟨⟨x, rfl⟩, rfl⟩
  cases x
  · go_wp2
    go_ret
    exact ⟨rfl, Below.refl _ _⟩
  by_cases hbig : s.size ≤ 65536
  · go_wp2_with fail
    refine (zzNumber s (by omega) w hE).mono ?_
    rintro e w1 ⟨rfl, bl⟩
    go_wp2_with fail
    refine (model_any s w1 hbig).mono ?_
    rintro e w2 ⟨rfl, rfl⟩
    go_wp2
    go_ret
    exact ⟨rfl, bl⟩
  · go_wp2
    go_ret
    exact ⟨rfl, Below.refl _ _⟩

end Go.Proofs.Qxb6612378aDoor
