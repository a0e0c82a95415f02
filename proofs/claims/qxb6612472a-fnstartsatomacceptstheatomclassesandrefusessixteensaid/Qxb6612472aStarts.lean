import Derived.Test.Qxb6612472aRows
import Derived.WalkKit
import Derived.WalkSpells
namespace Go.Proofs.Qxb6612472a
open Go.RowKit
set_option linter.unusedVariables false

/-- The characters that start no atom. -/
def refused : List Int := [32, 9, 10, 13, 12, 40, 41, 34, 59, 124, 0, 46, 35, 39, 96, 44]
/-- Does c start an atom? -/
def sa (c : Int) : Bool := !refused.contains c

theorem sa_not {c : Int} (h : ∀ r ∈ refused, c ≠ r) : sa c = true := by
  unfold sa
  rw [Bool.not_eq_true', Bool.eq_false_iff]
  intro e
  have := List.contains_iff_mem.1 e
  exact h c this rfl

theorem dT {p : Prop} [Decidable p] (h : p) : decide p = true := decide_eq_true h
theorem dF {p : Prop} [Decidable p] (h : ¬ p) : decide p = false := decide_eq_false h

set_option maxHeartbeats 400000 in
theorem s32 (w : World) : Calls Try.prog 6 #[.int .i32 32] w fun e w' => e = .returned (.bool (sa 32)) ∧ w = w' := by
  go_enter Try.func6, Try.ntmps6
  go_wp2
  go_ret
  exact ⟨rfl, rfl⟩

set_option maxHeartbeats 400000 in
theorem s9 (w : World) : Calls Try.prog 6 #[.int .i32 9] w fun e w' => e = .returned (.bool (sa 9)) ∧ w = w' := by
  go_enter Try.func6, Try.ntmps6
  go_wp2
  go_ret
  exact ⟨rfl, rfl⟩

set_option maxHeartbeats 400000 in
theorem s10 (w : World) : Calls Try.prog 6 #[.int .i32 10] w fun e w' => e = .returned (.bool (sa 10)) ∧ w = w' := by
  go_enter Try.func6, Try.ntmps6
  go_wp2
  go_ret
  exact ⟨rfl, rfl⟩

set_option maxHeartbeats 400000 in
theorem s13 (w : World) : Calls Try.prog 6 #[.int .i32 13] w fun e w' => e = .returned (.bool (sa 13)) ∧ w = w' := by
  go_enter Try.func6, Try.ntmps6
  go_wp2
  go_ret
  exact ⟨rfl, rfl⟩

set_option maxHeartbeats 400000 in
theorem s12 (w : World) : Calls Try.prog 6 #[.int .i32 12] w fun e w' => e = .returned (.bool (sa 12)) ∧ w = w' := by
  go_enter Try.func6, Try.ntmps6
  go_wp2
  go_ret
  exact ⟨rfl, rfl⟩

set_option maxHeartbeats 400000 in
theorem s40 (w : World) : Calls Try.prog 6 #[.int .i32 40] w fun e w' => e = .returned (.bool (sa 40)) ∧ w = w' := by
  go_enter Try.func6, Try.ntmps6
  go_wp2
  go_ret
  exact ⟨rfl, rfl⟩

set_option maxHeartbeats 400000 in
theorem s41 (w : World) : Calls Try.prog 6 #[.int .i32 41] w fun e w' => e = .returned (.bool (sa 41)) ∧ w = w' := by
  go_enter Try.func6, Try.ntmps6
  go_wp2
  go_ret
  exact ⟨rfl, rfl⟩

set_option maxHeartbeats 400000 in
theorem s34 (w : World) : Calls Try.prog 6 #[.int .i32 34] w fun e w' => e = .returned (.bool (sa 34)) ∧ w = w' := by
  go_enter Try.func6, Try.ntmps6
  go_wp2
  go_ret
  exact ⟨rfl, rfl⟩

set_option maxHeartbeats 400000 in
theorem s59 (w : World) : Calls Try.prog 6 #[.int .i32 59] w fun e w' => e = .returned (.bool (sa 59)) ∧ w = w' := by
  go_enter Try.func6, Try.ntmps6
  go_wp2
  go_ret
  exact ⟨rfl, rfl⟩

set_option maxHeartbeats 400000 in
theorem s124 (w : World) : Calls Try.prog 6 #[.int .i32 124] w fun e w' => e = .returned (.bool (sa 124)) ∧ w = w' := by
  go_enter Try.func6, Try.ntmps6
  go_wp2
  go_ret
  exact ⟨rfl, rfl⟩

set_option maxHeartbeats 400000 in
theorem s0 (w : World) : Calls Try.prog 6 #[.int .i32 0] w fun e w' => e = .returned (.bool (sa 0)) ∧ w = w' := by
  go_enter Try.func6, Try.ntmps6
  go_wp2
  go_ret
  exact ⟨rfl, rfl⟩

set_option maxHeartbeats 400000 in
theorem s46 (w : World) : Calls Try.prog 6 #[.int .i32 46] w fun e w' => e = .returned (.bool (sa 46)) ∧ w = w' := by
  go_enter Try.func6, Try.ntmps6
  go_wp2
  go_ret
  exact ⟨rfl, rfl⟩

set_option maxHeartbeats 400000 in
theorem s35 (w : World) : Calls Try.prog 6 #[.int .i32 35] w fun e w' => e = .returned (.bool (sa 35)) ∧ w = w' := by
  go_enter Try.func6, Try.ntmps6
  go_wp2
  go_ret
  exact ⟨rfl, rfl⟩

set_option maxHeartbeats 400000 in
theorem s39 (w : World) : Calls Try.prog 6 #[.int .i32 39] w fun e w' => e = .returned (.bool (sa 39)) ∧ w = w' := by
  go_enter Try.func6, Try.ntmps6
  go_wp2
  go_ret
  exact ⟨rfl, rfl⟩

set_option maxHeartbeats 400000 in
theorem s96 (w : World) : Calls Try.prog 6 #[.int .i32 96] w fun e w' => e = .returned (.bool (sa 96)) ∧ w = w' := by
  go_enter Try.func6, Try.ntmps6
  go_wp2
  go_ret
  exact ⟨rfl, rfl⟩

set_option maxHeartbeats 400000 in
theorem s44 (w : World) : Calls Try.prog 6 #[.int .i32 44] w fun e w' => e = .returned (.bool (sa 44)) ∧ w = w' := by
  go_enter Try.func6, Try.ntmps6
  go_wp2
  go_ret
  exact ⟨rfl, rfl⟩

set_option maxHeartbeats 400000 in
theorem s_other (c : Int) (w : World) (h32 : c ≠ 32) (h9 : c ≠ 9) (h10 : c ≠ 10) (h13 : c ≠ 13) (h12 : c ≠ 12) (h40 : c ≠ 40) (h41 : c ≠ 41) (h34 : c ≠ 34) (h59 : c ≠ 59) (h124 : c ≠ 124) (h0 : c ≠ 0) (h46 : c ≠ 46) (h35 : c ≠ 35) (h39 : c ≠ 39) (h96 : c ≠ 96) (h44 : c ≠ 44) : Calls Try.prog 6 #[.int .i32 c] w fun e w' => e = .returned (.bool true) ∧ w = w' := by
  have e32 : (c == 32) = false := beq_eq_false_iff_ne.2 h32
  have n32 : (c != 32) = true := bne_iff_ne.2 h32
  have e9 : (c == 9) = false := beq_eq_false_iff_ne.2 h9
  have n9 : (c != 9) = true := bne_iff_ne.2 h9
  have e10 : (c == 10) = false := beq_eq_false_iff_ne.2 h10
  have n10 : (c != 10) = true := bne_iff_ne.2 h10
  have e13 : (c == 13) = false := beq_eq_false_iff_ne.2 h13
  have n13 : (c != 13) = true := bne_iff_ne.2 h13
  have e12 : (c == 12) = false := beq_eq_false_iff_ne.2 h12
  have n12 : (c != 12) = true := bne_iff_ne.2 h12
  have e40 : (c == 40) = false := beq_eq_false_iff_ne.2 h40
  have n40 : (c != 40) = true := bne_iff_ne.2 h40
  have e41 : (c == 41) = false := beq_eq_false_iff_ne.2 h41
  have n41 : (c != 41) = true := bne_iff_ne.2 h41
  have e34 : (c == 34) = false := beq_eq_false_iff_ne.2 h34
  have n34 : (c != 34) = true := bne_iff_ne.2 h34
  have e59 : (c == 59) = false := beq_eq_false_iff_ne.2 h59
  have n59 : (c != 59) = true := bne_iff_ne.2 h59
  have e124 : (c == 124) = false := beq_eq_false_iff_ne.2 h124
  have n124 : (c != 124) = true := bne_iff_ne.2 h124
  have e0 : (c == 0) = false := beq_eq_false_iff_ne.2 h0
  have n0 : (c != 0) = true := bne_iff_ne.2 h0
  have e46 : (c == 46) = false := beq_eq_false_iff_ne.2 h46
  have n46 : (c != 46) = true := bne_iff_ne.2 h46
  have e35 : (c == 35) = false := beq_eq_false_iff_ne.2 h35
  have n35 : (c != 35) = true := bne_iff_ne.2 h35
  have e39 : (c == 39) = false := beq_eq_false_iff_ne.2 h39
  have n39 : (c != 39) = true := bne_iff_ne.2 h39
  have e96 : (c == 96) = false := beq_eq_false_iff_ne.2 h96
  have n96 : (c != 96) = true := bne_iff_ne.2 h96
  have e44 : (c == 44) = false := beq_eq_false_iff_ne.2 h44
  have n44 : (c != 44) = true := bne_iff_ne.2 h44
  clear h32 h9 h10 h13 h12 h40 h41 h34 h59 h124 h0 h46 h35 h39 h96 h44
  by_cases hc : c ≤ 32
  · have d : decide (c ≤ 32) = true := dT hc
    go_enter Try.func6, Try.ntmps6
    go_wp2
    go_ret
    exact ⟨rfl, rfl⟩
  · have d : decide (c ≤ 32) = false := dF hc
    go_enter Try.func6, Try.ntmps6
    go_wp2
    go_ret
    exact ⟨rfl, rfl⟩

theorem starts_any (c : Int) (w : World) : Calls Try.prog 6 #[.int .i32 c] w fun e w' => e = .returned (.bool (sa c)) ∧ w = w' := by
  by_cases h32 : c = 32
  · subst h32; exact s32 w
  by_cases h9 : c = 9
  · subst h9; exact s9 w
  by_cases h10 : c = 10
  · subst h10; exact s10 w
  by_cases h13 : c = 13
  · subst h13; exact s13 w
  by_cases h12 : c = 12
  · subst h12; exact s12 w
  by_cases h40 : c = 40
  · subst h40; exact s40 w
  by_cases h41 : c = 41
  · subst h41; exact s41 w
  by_cases h34 : c = 34
  · subst h34; exact s34 w
  by_cases h59 : c = 59
  · subst h59; exact s59 w
  by_cases h124 : c = 124
  · subst h124; exact s124 w
  by_cases h0 : c = 0
  · subst h0; exact s0 w
  by_cases h46 : c = 46
  · subst h46; exact s46 w
  by_cases h35 : c = 35
  · subst h35; exact s35 w
  by_cases h39 : c = 39
  · subst h39; exact s39 w
  by_cases h96 : c = 96
  · subst h96; exact s96 w
  by_cases h44 : c = 44
  · subst h44; exact s44 w
  have hs : sa c = true := sa_not (by intro r hr; simp only [refused, List.mem_cons, List.not_mem_nil, or_false] at hr; omega)
  rw [hs]
  exact s_other c w h32 h9 h10 h13 h12 h40 h41 h34 h59 h124 h0 h46 h35 h39 h96 h44

end Go.Proofs.Qxb6612472a
