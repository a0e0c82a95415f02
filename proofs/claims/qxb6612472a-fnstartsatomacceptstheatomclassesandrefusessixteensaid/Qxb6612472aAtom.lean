import Derived.Test.Qxb6612472aStarts
namespace Go.Proofs.Qxb6612472a
open Go.RowKit
set_option linter.unusedVariables false

set_option maxHeartbeats 400000 in
theorem a0 (w : World) : Calls Try.prog 5 #[.int .i32 0] w fun e w' => e = .returned (.bool (sa 0)) ∧ w = w' := by
  go_enter Try.func5, Try.ntmps5
  go_wp2
  go_ret
  exact ⟨rfl, rfl⟩

set_option maxHeartbeats 400000 in
theorem a9 (w : World) : Calls Try.prog 5 #[.int .i32 9] w fun e w' => e = .returned (.bool (sa 9)) ∧ w = w' := by
  go_enter Try.func5, Try.ntmps5
  go_wp2
  go_ret
  exact ⟨rfl, rfl⟩

set_option maxHeartbeats 400000 in
theorem a10 (w : World) : Calls Try.prog 5 #[.int .i32 10] w fun e w' => e = .returned (.bool (sa 10)) ∧ w = w' := by
  go_enter Try.func5, Try.ntmps5
  go_wp2
  go_ret
  exact ⟨rfl, rfl⟩

set_option maxHeartbeats 400000 in
theorem a11 (w : World) : Calls Try.prog 5 #[.int .i32 11] w fun e w' => e = .returned (.bool (sa 11)) ∧ w = w' := by
  go_enter Try.func5, Try.ntmps5
  go_wp2
  go_ret
  exact ⟨rfl, rfl⟩

set_option maxHeartbeats 400000 in
theorem a12 (w : World) : Calls Try.prog 5 #[.int .i32 12] w fun e w' => e = .returned (.bool (sa 12)) ∧ w = w' := by
  go_enter Try.func5, Try.ntmps5
  go_wp2
  go_ret
  exact ⟨rfl, rfl⟩

set_option maxHeartbeats 400000 in
theorem a13 (w : World) : Calls Try.prog 5 #[.int .i32 13] w fun e w' => e = .returned (.bool (sa 13)) ∧ w = w' := by
  go_enter Try.func5, Try.ntmps5
  go_wp2
  go_ret
  exact ⟨rfl, rfl⟩

set_option maxHeartbeats 400000 in
theorem a32 (w : World) : Calls Try.prog 5 #[.int .i32 32] w fun e w' => e = .returned (.bool (sa 32)) ∧ w = w' := by
  go_enter Try.func5, Try.ntmps5
  go_wp2
  go_ret
  exact ⟨rfl, rfl⟩

set_option maxHeartbeats 400000 in
theorem a33 (w : World) : Calls Try.prog 5 #[.int .i32 33] w fun e w' => e = .returned (.bool (sa 33)) ∧ w = w' := by
  go_enter Try.func5, Try.ntmps5
  go_wp2
  go_ret
  exact ⟨rfl, rfl⟩

set_option maxHeartbeats 400000 in
theorem a34 (w : World) : Calls Try.prog 5 #[.int .i32 34] w fun e w' => e = .returned (.bool (sa 34)) ∧ w = w' := by
  go_enter Try.func5, Try.ntmps5
  go_wp2
  go_ret
  exact ⟨rfl, rfl⟩

set_option maxHeartbeats 400000 in
theorem a35 (w : World) : Calls Try.prog 5 #[.int .i32 35] w fun e w' => e = .returned (.bool (sa 35)) ∧ w = w' := by
  go_enter Try.func5, Try.ntmps5
  go_wp2
  go_ret
  exact ⟨rfl, rfl⟩

set_option maxHeartbeats 400000 in
theorem a36 (w : World) : Calls Try.prog 5 #[.int .i32 36] w fun e w' => e = .returned (.bool (sa 36)) ∧ w = w' := by
  go_enter Try.func5, Try.ntmps5
  go_wp2
  go_ret
  exact ⟨rfl, rfl⟩

set_option maxHeartbeats 400000 in
theorem a37 (w : World) : Calls Try.prog 5 #[.int .i32 37] w fun e w' => e = .returned (.bool (sa 37)) ∧ w = w' := by
  go_enter Try.func5, Try.ntmps5
  go_wp2
  go_ret
  exact ⟨rfl, rfl⟩

set_option maxHeartbeats 400000 in
theorem a38 (w : World) : Calls Try.prog 5 #[.int .i32 38] w fun e w' => e = .returned (.bool (sa 38)) ∧ w = w' := by
  go_enter Try.func5, Try.ntmps5
  go_wp2
  go_ret
  exact ⟨rfl, rfl⟩

set_option maxHeartbeats 400000 in
theorem a39 (w : World) : Calls Try.prog 5 #[.int .i32 39] w fun e w' => e = .returned (.bool (sa 39)) ∧ w = w' := by
  go_enter Try.func5, Try.ntmps5
  go_wp2
  go_ret
  exact ⟨rfl, rfl⟩

set_option maxHeartbeats 400000 in
theorem a40 (w : World) : Calls Try.prog 5 #[.int .i32 40] w fun e w' => e = .returned (.bool (sa 40)) ∧ w = w' := by
  go_enter Try.func5, Try.ntmps5
  go_wp2
  go_ret
  exact ⟨rfl, rfl⟩

set_option maxHeartbeats 400000 in
theorem a41 (w : World) : Calls Try.prog 5 #[.int .i32 41] w fun e w' => e = .returned (.bool (sa 41)) ∧ w = w' := by
  go_enter Try.func5, Try.ntmps5
  go_wp2
  go_ret
  exact ⟨rfl, rfl⟩

set_option maxHeartbeats 400000 in
theorem a42 (w : World) : Calls Try.prog 5 #[.int .i32 42] w fun e w' => e = .returned (.bool (sa 42)) ∧ w = w' := by
  go_enter Try.func5, Try.ntmps5
  go_wp2
  go_ret
  exact ⟨rfl, rfl⟩

set_option maxHeartbeats 400000 in
theorem a43 (w : World) : Calls Try.prog 5 #[.int .i32 43] w fun e w' => e = .returned (.bool (sa 43)) ∧ w = w' := by
  go_enter Try.func5, Try.ntmps5
  go_wp2
  go_ret
  exact ⟨rfl, rfl⟩

set_option maxHeartbeats 400000 in
theorem a44 (w : World) : Calls Try.prog 5 #[.int .i32 44] w fun e w' => e = .returned (.bool (sa 44)) ∧ w = w' := by
  go_enter Try.func5, Try.ntmps5
  go_wp2
  go_ret
  exact ⟨rfl, rfl⟩

set_option maxHeartbeats 400000 in
theorem a45 (w : World) : Calls Try.prog 5 #[.int .i32 45] w fun e w' => e = .returned (.bool (sa 45)) ∧ w = w' := by
  go_enter Try.func5, Try.ntmps5
  go_wp2
  go_ret
  exact ⟨rfl, rfl⟩

set_option maxHeartbeats 400000 in
theorem a46 (w : World) : Calls Try.prog 5 #[.int .i32 46] w fun e w' => e = .returned (.bool (sa 46)) ∧ w = w' := by
  go_enter Try.func5, Try.ntmps5
  go_wp2
  go_ret
  exact ⟨rfl, rfl⟩

set_option maxHeartbeats 400000 in
theorem a47 (w : World) : Calls Try.prog 5 #[.int .i32 47] w fun e w' => e = .returned (.bool (sa 47)) ∧ w = w' := by
  go_enter Try.func5, Try.ntmps5
  go_wp2
  go_ret
  exact ⟨rfl, rfl⟩

set_option maxHeartbeats 400000 in
theorem a58 (w : World) : Calls Try.prog 5 #[.int .i32 58] w fun e w' => e = .returned (.bool (sa 58)) ∧ w = w' := by
  go_enter Try.func5, Try.ntmps5
  go_wp2
  go_ret
  exact ⟨rfl, rfl⟩

set_option maxHeartbeats 400000 in
theorem a59 (w : World) : Calls Try.prog 5 #[.int .i32 59] w fun e w' => e = .returned (.bool (sa 59)) ∧ w = w' := by
  go_enter Try.func5, Try.ntmps5
  go_wp2
  go_ret
  exact ⟨rfl, rfl⟩

set_option maxHeartbeats 400000 in
theorem a60 (w : World) : Calls Try.prog 5 #[.int .i32 60] w fun e w' => e = .returned (.bool (sa 60)) ∧ w = w' := by
  go_enter Try.func5, Try.ntmps5
  go_wp2
  go_ret
  exact ⟨rfl, rfl⟩

set_option maxHeartbeats 400000 in
theorem a61 (w : World) : Calls Try.prog 5 #[.int .i32 61] w fun e w' => e = .returned (.bool (sa 61)) ∧ w = w' := by
  go_enter Try.func5, Try.ntmps5
  go_wp2
  go_ret
  exact ⟨rfl, rfl⟩

set_option maxHeartbeats 400000 in
theorem a62 (w : World) : Calls Try.prog 5 #[.int .i32 62] w fun e w' => e = .returned (.bool (sa 62)) ∧ w = w' := by
  go_enter Try.func5, Try.ntmps5
  go_wp2
  go_ret
  exact ⟨rfl, rfl⟩

set_option maxHeartbeats 400000 in
theorem a63 (w : World) : Calls Try.prog 5 #[.int .i32 63] w fun e w' => e = .returned (.bool (sa 63)) ∧ w = w' := by
  go_enter Try.func5, Try.ntmps5
  go_wp2
  go_ret
  exact ⟨rfl, rfl⟩

set_option maxHeartbeats 400000 in
theorem a64 (w : World) : Calls Try.prog 5 #[.int .i32 64] w fun e w' => e = .returned (.bool (sa 64)) ∧ w = w' := by
  go_enter Try.func5, Try.ntmps5
  go_wp2
  go_ret
  exact ⟨rfl, rfl⟩

set_option maxHeartbeats 400000 in
theorem a91 (w : World) : Calls Try.prog 5 #[.int .i32 91] w fun e w' => e = .returned (.bool (sa 91)) ∧ w = w' := by
  go_enter Try.func5, Try.ntmps5
  go_wp2
  go_ret
  exact ⟨rfl, rfl⟩

set_option maxHeartbeats 400000 in
theorem a92 (w : World) : Calls Try.prog 5 #[.int .i32 92] w fun e w' => e = .returned (.bool (sa 92)) ∧ w = w' := by
  go_enter Try.func5, Try.ntmps5
  go_wp2
  go_ret
  exact ⟨rfl, rfl⟩

set_option maxHeartbeats 400000 in
theorem a93 (w : World) : Calls Try.prog 5 #[.int .i32 93] w fun e w' => e = .returned (.bool (sa 93)) ∧ w = w' := by
  go_enter Try.func5, Try.ntmps5
  go_wp2
  go_ret
  exact ⟨rfl, rfl⟩

set_option maxHeartbeats 400000 in
theorem a94 (w : World) : Calls Try.prog 5 #[.int .i32 94] w fun e w' => e = .returned (.bool (sa 94)) ∧ w = w' := by
  go_enter Try.func5, Try.ntmps5
  go_wp2
  go_ret
  exact ⟨rfl, rfl⟩

set_option maxHeartbeats 400000 in
theorem a95 (w : World) : Calls Try.prog 5 #[.int .i32 95] w fun e w' => e = .returned (.bool (sa 95)) ∧ w = w' := by
  go_enter Try.func5, Try.ntmps5
  go_wp2
  go_ret
  exact ⟨rfl, rfl⟩

set_option maxHeartbeats 400000 in
theorem a96 (w : World) : Calls Try.prog 5 #[.int .i32 96] w fun e w' => e = .returned (.bool (sa 96)) ∧ w = w' := by
  go_enter Try.func5, Try.ntmps5
  go_wp2
  go_ret
  exact ⟨rfl, rfl⟩

set_option maxHeartbeats 400000 in
theorem a123 (w : World) : Calls Try.prog 5 #[.int .i32 123] w fun e w' => e = .returned (.bool (sa 123)) ∧ w = w' := by
  go_enter Try.func5, Try.ntmps5
  go_wp2
  go_ret
  exact ⟨rfl, rfl⟩

set_option maxHeartbeats 400000 in
theorem a124 (w : World) : Calls Try.prog 5 #[.int .i32 124] w fun e w' => e = .returned (.bool (sa 124)) ∧ w = w' := by
  go_enter Try.func5, Try.ntmps5
  go_wp2
  go_ret
  exact ⟨rfl, rfl⟩

set_option maxHeartbeats 400000 in
theorem a125 (w : World) : Calls Try.prog 5 #[.int .i32 125] w fun e w' => e = .returned (.bool (sa 125)) ∧ w = w' := by
  go_enter Try.func5, Try.ntmps5
  go_wp2
  go_ret
  exact ⟨rfl, rfl⟩

set_option maxHeartbeats 400000 in
theorem a126 (w : World) : Calls Try.prog 5 #[.int .i32 126] w fun e w' => e = .returned (.bool (sa 126)) ∧ w = w' := by
  go_enter Try.func5, Try.ntmps5
  go_wp2
  go_ret
  exact ⟨rfl, rfl⟩

set_option maxHeartbeats 400000 in
theorem a127 (w : World) : Calls Try.prog 5 #[.int .i32 127] w fun e w' => e = .returned (.bool (sa 127)) ∧ w = w' := by
  go_enter Try.func5, Try.ntmps5
  go_wp2
  go_ret
  exact ⟨rfl, rfl⟩

set_option maxHeartbeats 400000 in
theorem ai1 (c : Int) (w : World) (h1 : 1 ≤ c) (h2 : c ≤ 8) : Calls Try.prog 5 #[.int .i32 c] w fun e w' => e = .returned (.bool true) ∧ w = w' := by
  have e127 : (c == 127) = false := beq_eq_false_iff_ne.2 (by omega)
  have n9 : (c != 9) = true := bne_iff_ne.2 (by omega)
  have n10 : (c != 10) = true := bne_iff_ne.2 (by omega)
  have n12 : (c != 12) = true := bne_iff_ne.2 (by omega)
  have n13 : (c != 13) = true := bne_iff_ne.2 (by omega)
  have d0 : decide (97 ≤ c) = false := dF (by omega)
  have d1 : decide (c ≤ 122) = true := dT (by omega)
  have d2 : decide (65 ≤ c) = false := dF (by omega)
  have d3 : decide (c ≤ 90) = true := dT (by omega)
  have d4 : decide (48 ≤ c) = false := dF (by omega)
  have d5 : decide (c ≤ 57) = true := dT (by omega)
  have d6 : decide (1 ≤ c) = true := dT (by omega)
  have d7 : decide (c ≤ 31) = true := dT (by omega)
  go_enter Try.func5, Try.ntmps5
  go_wp2
  go_ret
  exact ⟨rfl, rfl⟩

set_option maxHeartbeats 400000 in
theorem ai14 (c : Int) (w : World) (h1 : 14 ≤ c) (h2 : c ≤ 31) : Calls Try.prog 5 #[.int .i32 c] w fun e w' => e = .returned (.bool true) ∧ w = w' := by
  have e127 : (c == 127) = false := beq_eq_false_iff_ne.2 (by omega)
  have n9 : (c != 9) = true := bne_iff_ne.2 (by omega)
  have n10 : (c != 10) = true := bne_iff_ne.2 (by omega)
  have n12 : (c != 12) = true := bne_iff_ne.2 (by omega)
  have n13 : (c != 13) = true := bne_iff_ne.2 (by omega)
  have d0 : decide (97 ≤ c) = false := dF (by omega)
  have d1 : decide (c ≤ 122) = true := dT (by omega)
  have d2 : decide (65 ≤ c) = false := dF (by omega)
  have d3 : decide (c ≤ 90) = true := dT (by omega)
  have d4 : decide (48 ≤ c) = false := dF (by omega)
  have d5 : decide (c ≤ 57) = true := dT (by omega)
  have d6 : decide (1 ≤ c) = true := dT (by omega)
  have d7 : decide (c ≤ 31) = true := dT (by omega)
  go_enter Try.func5, Try.ntmps5
  go_wp2
  go_ret
  exact ⟨rfl, rfl⟩

set_option maxHeartbeats 400000 in
theorem ai48 (c : Int) (w : World) (h1 : 48 ≤ c) (h2 : c ≤ 57) : Calls Try.prog 5 #[.int .i32 c] w fun e w' => e = .returned (.bool true) ∧ w = w' := by
  have e127 : (c == 127) = false := beq_eq_false_iff_ne.2 (by omega)
  have n9 : (c != 9) = true := bne_iff_ne.2 (by omega)
  have n10 : (c != 10) = true := bne_iff_ne.2 (by omega)
  have n12 : (c != 12) = true := bne_iff_ne.2 (by omega)
  have n13 : (c != 13) = true := bne_iff_ne.2 (by omega)
  have d0 : decide (97 ≤ c) = false := dF (by omega)
  have d1 : decide (c ≤ 122) = true := dT (by omega)
  have d2 : decide (65 ≤ c) = false := dF (by omega)
  have d3 : decide (c ≤ 90) = true := dT (by omega)
  have d4 : decide (48 ≤ c) = true := dT (by omega)
  have d5 : decide (c ≤ 57) = true := dT (by omega)
  have d6 : decide (1 ≤ c) = true := dT (by omega)
  have d7 : decide (c ≤ 31) = false := dF (by omega)
  go_enter Try.func5, Try.ntmps5
  go_wp2
  go_ret
  exact ⟨rfl, rfl⟩

set_option maxHeartbeats 400000 in
theorem ai65 (c : Int) (w : World) (h1 : 65 ≤ c) (h2 : c ≤ 90) : Calls Try.prog 5 #[.int .i32 c] w fun e w' => e = .returned (.bool true) ∧ w = w' := by
  have e127 : (c == 127) = false := beq_eq_false_iff_ne.2 (by omega)
  have n9 : (c != 9) = true := bne_iff_ne.2 (by omega)
  have n10 : (c != 10) = true := bne_iff_ne.2 (by omega)
  have n12 : (c != 12) = true := bne_iff_ne.2 (by omega)
  have n13 : (c != 13) = true := bne_iff_ne.2 (by omega)
  have d0 : decide (97 ≤ c) = false := dF (by omega)
  have d1 : decide (c ≤ 122) = true := dT (by omega)
  have d2 : decide (65 ≤ c) = true := dT (by omega)
  have d3 : decide (c ≤ 90) = true := dT (by omega)
  have d4 : decide (48 ≤ c) = true := dT (by omega)
  have d5 : decide (c ≤ 57) = false := dF (by omega)
  have d6 : decide (1 ≤ c) = true := dT (by omega)
  have d7 : decide (c ≤ 31) = false := dF (by omega)
  go_enter Try.func5, Try.ntmps5
  go_wp2
  go_ret
  exact ⟨rfl, rfl⟩

set_option maxHeartbeats 400000 in
theorem ai97 (c : Int) (w : World) (h1 : 97 ≤ c) (h2 : c ≤ 122) : Calls Try.prog 5 #[.int .i32 c] w fun e w' => e = .returned (.bool true) ∧ w = w' := by
  have e127 : (c == 127) = false := beq_eq_false_iff_ne.2 (by omega)
  have n9 : (c != 9) = true := bne_iff_ne.2 (by omega)
  have n10 : (c != 10) = true := bne_iff_ne.2 (by omega)
  have n12 : (c != 12) = true := bne_iff_ne.2 (by omega)
  have n13 : (c != 13) = true := bne_iff_ne.2 (by omega)
  have d0 : decide (97 ≤ c) = true := dT (by omega)
  have d1 : decide (c ≤ 122) = true := dT (by omega)
  have d2 : decide (65 ≤ c) = true := dT (by omega)
  have d3 : decide (c ≤ 90) = false := dF (by omega)
  have d4 : decide (48 ≤ c) = true := dT (by omega)
  have d5 : decide (c ≤ 57) = false := dF (by omega)
  have d6 : decide (1 ≤ c) = true := dT (by omega)
  have d7 : decide (c ≤ 31) = false := dF (by omega)
  go_enter Try.func5, Try.ntmps5
  go_wp2
  go_ret
  exact ⟨rfl, rfl⟩

theorem atom_any (c : Int) (w : World) (h0 : 0 ≤ c) (h1 : c < 128) : Calls Try.prog 5 #[.int .i32 c] w fun e w' => e = .returned (.bool (sa c)) ∧ w = w' := by
  by_cases h0 : c = 0
  · subst h0; exact a0 w
  by_cases h9 : c = 9
  · subst h9; exact a9 w
  by_cases h10 : c = 10
  · subst h10; exact a10 w
  by_cases h11 : c = 11
  · subst h11; exact a11 w
  by_cases h12 : c = 12
  · subst h12; exact a12 w
  by_cases h13 : c = 13
  · subst h13; exact a13 w
  by_cases h32 : c = 32
  · subst h32; exact a32 w
  by_cases h33 : c = 33
  · subst h33; exact a33 w
  by_cases h34 : c = 34
  · subst h34; exact a34 w
  by_cases h35 : c = 35
  · subst h35; exact a35 w
  by_cases h36 : c = 36
  · subst h36; exact a36 w
  by_cases h37 : c = 37
  · subst h37; exact a37 w
  by_cases h38 : c = 38
  · subst h38; exact a38 w
  by_cases h39 : c = 39
  · subst h39; exact a39 w
  by_cases h40 : c = 40
  · subst h40; exact a40 w
  by_cases h41 : c = 41
  · subst h41; exact a41 w
  by_cases h42 : c = 42
  · subst h42; exact a42 w
  by_cases h43 : c = 43
  · subst h43; exact a43 w
  by_cases h44 : c = 44
  · subst h44; exact a44 w
  by_cases h45 : c = 45
  · subst h45; exact a45 w
  by_cases h46 : c = 46
  · subst h46; exact a46 w
  by_cases h47 : c = 47
  · subst h47; exact a47 w
  by_cases h58 : c = 58
  · subst h58; exact a58 w
  by_cases h59 : c = 59
  · subst h59; exact a59 w
  by_cases h60 : c = 60
  · subst h60; exact a60 w
  by_cases h61 : c = 61
  · subst h61; exact a61 w
  by_cases h62 : c = 62
  · subst h62; exact a62 w
  by_cases h63 : c = 63
  · subst h63; exact a63 w
  by_cases h64 : c = 64
  · subst h64; exact a64 w
  by_cases h91 : c = 91
  · subst h91; exact a91 w
  by_cases h92 : c = 92
  · subst h92; exact a92 w
  by_cases h93 : c = 93
  · subst h93; exact a93 w
  by_cases h94 : c = 94
  · subst h94; exact a94 w
  by_cases h95 : c = 95
  · subst h95; exact a95 w
  by_cases h96 : c = 96
  · subst h96; exact a96 w
  by_cases h123 : c = 123
  · subst h123; exact a123 w
  by_cases h124 : c = 124
  · subst h124; exact a124 w
  by_cases h125 : c = 125
  · subst h125; exact a125 w
  by_cases h126 : c = 126
  · subst h126; exact a126 w
  by_cases h127 : c = 127
  · subst h127; exact a127 w
  have hs : sa c = true := sa_not (by intro r hr; simp only [refused, List.mem_cons, List.not_mem_nil, or_false] at hr; omega)
  rw [hs]
  by_cases g1 : c ≤ 8
  · exact ai1 c w (by omega) g1
  by_cases g14 : c ≤ 31
  · exact ai14 c w (by omega) g14
  by_cases g48 : c ≤ 57
  · exact ai48 c w (by omega) g48
  by_cases g65 : c ≤ 90
  · exact ai65 c w (by omega) g65
  exact ai97 c w (by omega) (by omega)

end Go.Proofs.Qxb6612472a
