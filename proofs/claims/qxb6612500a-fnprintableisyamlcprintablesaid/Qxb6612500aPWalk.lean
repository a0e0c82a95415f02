import Derived.Test.Qxb6612500aRows
import Derived.WalkKit
import Derived.WalkSpells
namespace Go.Proofs.Qxb6612500a
open Go.RowKit
set_option linter.unusedVariables false

theorem dT {p : Prop} [Decidable p] (h : p) : decide p = true := decide_eq_true h
theorem dF {p : Prop} [Decidable p] (h : ¬ p) : decide p = false := decide_eq_false h

set_option maxHeartbeats 1000000 in
theorem w0 (c : Int) (w : World) (h2 : c ≤ -1) : Calls Try.prog 3 #[.int .i32 c] w fun e w' => e = .returned (.bool true) ∧ Grown w w' := by
  have e9 : (c == 9) = false := beq_eq_false_iff_ne.2 (by omega)
  have e10 : (c == 10) = false := beq_eq_false_iff_ne.2 (by omega)
  have e13 : (c == 13) = false := beq_eq_false_iff_ne.2 (by omega)
  have e133 : (c == 133) = false := beq_eq_false_iff_ne.2 (by omega)
  have n65534 : (c != 65534) = true := bne_iff_ne.2 (by omega)
  have n65535 : (c != 65535) = true := bne_iff_ne.2 (by omega)
  have d0 : decide (c < 0) = true := dT (by omega)
  have d1 : decide (1114111 < c) = false := dF (by omega)
  have d2 : decide (c < 55296) = true := dT (by omega)
  have d3 : decide (57343 < c) = false := dF (by omega)
  have d4 : decide (0 ≤ c) = false := dF (by omega)
  have d5 : decide (c < 32) = true := dT (by omega)
  have d6 : decide (127 ≤ c) = false := dF (by omega)
  have d7 : decide (c ≤ 159) = true := dT (by omega)
  have d8 : decide (32 ≤ c) = false := dF (by omega)
  have d9 : decide (c ≤ 126) = true := dT (by omega)
  have d10 : decide (160 ≤ c) = false := dF (by omega)
  have d11 : decide (c ≤ 55295) = true := dT (by omega)
  have d12 : decide (57344 ≤ c) = false := dF (by omega)
  have d13 : decide (c ≤ 65533) = true := dT (by omega)
  have d14 : decide (65536 ≤ c) = false := dF (by omega)
  have d15 : decide (c ≤ 1114111) = true := dT (by omega)
  go_enter Try.func3, Try.ntmps3
  go_wp2
  go_ret
  exact ⟨rfl, Grown.refl _⟩

set_option maxHeartbeats 1000000 in
theorem w1 (c : Int) (w : World) (h1 : 0 ≤ c) (h2 : c ≤ 8) : Calls Try.prog 3 #[.int .i32 c] w fun e w' => e = .returned (.bool true) ∧ Grown w w' := by
  have e9 : (c == 9) = false := beq_eq_false_iff_ne.2 (by omega)
  have e10 : (c == 10) = false := beq_eq_false_iff_ne.2 (by omega)
  have e13 : (c == 13) = false := beq_eq_false_iff_ne.2 (by omega)
  have e133 : (c == 133) = false := beq_eq_false_iff_ne.2 (by omega)
  have n65534 : (c != 65534) = true := bne_iff_ne.2 (by omega)
  have n65535 : (c != 65535) = true := bne_iff_ne.2 (by omega)
  have d0 : decide (c < 0) = false := dF (by omega)
  have d1 : decide (1114111 < c) = false := dF (by omega)
  have d2 : decide (c < 55296) = true := dT (by omega)
  have d3 : decide (57343 < c) = false := dF (by omega)
  have d4 : decide (0 ≤ c) = true := dT (by omega)
  have d5 : decide (c < 32) = true := dT (by omega)
  have d6 : decide (127 ≤ c) = false := dF (by omega)
  have d7 : decide (c ≤ 159) = true := dT (by omega)
  have d8 : decide (32 ≤ c) = false := dF (by omega)
  have d9 : decide (c ≤ 126) = true := dT (by omega)
  have d10 : decide (160 ≤ c) = false := dF (by omega)
  have d11 : decide (c ≤ 55295) = true := dT (by omega)
  have d12 : decide (57344 ≤ c) = false := dF (by omega)
  have d13 : decide (c ≤ 65533) = true := dT (by omega)
  have d14 : decide (65536 ≤ c) = false := dF (by omega)
  have d15 : decide (c ≤ 1114111) = true := dT (by omega)
  go_enter Try.func3, Try.ntmps3
  go_wp2
  go_ret
  exact ⟨rfl, Grown.refl _⟩

set_option maxHeartbeats 1000000 in
theorem w2 (w : World) : Calls Try.prog 3 #[.int .i32 9] w fun e w' => e = .returned (.bool true) ∧ Grown w w' := by
  go_enter Try.func3, Try.ntmps3
  go_wp2
  go_ret
  exact ⟨rfl, Grown.refl _⟩

set_option maxHeartbeats 1000000 in
theorem w3 (w : World) : Calls Try.prog 3 #[.int .i32 10] w fun e w' => e = .returned (.bool true) ∧ Grown w w' := by
  go_enter Try.func3, Try.ntmps3
  go_wp2
  go_ret
  exact ⟨rfl, Grown.refl _⟩

set_option maxHeartbeats 1000000 in
theorem w4 (c : Int) (w : World) (h1 : 11 ≤ c) (h2 : c ≤ 12) : Calls Try.prog 3 #[.int .i32 c] w fun e w' => e = .returned (.bool true) ∧ Grown w w' := by
  have e9 : (c == 9) = false := beq_eq_false_iff_ne.2 (by omega)
  have e10 : (c == 10) = false := beq_eq_false_iff_ne.2 (by omega)
  have e13 : (c == 13) = false := beq_eq_false_iff_ne.2 (by omega)
  have e133 : (c == 133) = false := beq_eq_false_iff_ne.2 (by omega)
  have n65534 : (c != 65534) = true := bne_iff_ne.2 (by omega)
  have n65535 : (c != 65535) = true := bne_iff_ne.2 (by omega)
  have d0 : decide (c < 0) = false := dF (by omega)
  have d1 : decide (1114111 < c) = false := dF (by omega)
  have d2 : decide (c < 55296) = true := dT (by omega)
  have d3 : decide (57343 < c) = false := dF (by omega)
  have d4 : decide (0 ≤ c) = true := dT (by omega)
  have d5 : decide (c < 32) = true := dT (by omega)
  have d6 : decide (127 ≤ c) = false := dF (by omega)
  have d7 : decide (c ≤ 159) = true := dT (by omega)
  have d8 : decide (32 ≤ c) = false := dF (by omega)
  have d9 : decide (c ≤ 126) = true := dT (by omega)
  have d10 : decide (160 ≤ c) = false := dF (by omega)
  have d11 : decide (c ≤ 55295) = true := dT (by omega)
  have d12 : decide (57344 ≤ c) = false := dF (by omega)
  have d13 : decide (c ≤ 65533) = true := dT (by omega)
  have d14 : decide (65536 ≤ c) = false := dF (by omega)
  have d15 : decide (c ≤ 1114111) = true := dT (by omega)
  go_enter Try.func3, Try.ntmps3
  go_wp2
  go_ret
  exact ⟨rfl, Grown.refl _⟩

set_option maxHeartbeats 1000000 in
theorem w5 (w : World) : Calls Try.prog 3 #[.int .i32 13] w fun e w' => e = .returned (.bool true) ∧ Grown w w' := by
  go_enter Try.func3, Try.ntmps3
  go_wp2
  go_ret
  exact ⟨rfl, Grown.refl _⟩

set_option maxHeartbeats 1000000 in
theorem w6 (c : Int) (w : World) (h1 : 14 ≤ c) (h2 : c ≤ 31) : Calls Try.prog 3 #[.int .i32 c] w fun e w' => e = .returned (.bool true) ∧ Grown w w' := by
  have e9 : (c == 9) = false := beq_eq_false_iff_ne.2 (by omega)
  have e10 : (c == 10) = false := beq_eq_false_iff_ne.2 (by omega)
  have e13 : (c == 13) = false := beq_eq_false_iff_ne.2 (by omega)
  have e133 : (c == 133) = false := beq_eq_false_iff_ne.2 (by omega)
  have n65534 : (c != 65534) = true := bne_iff_ne.2 (by omega)
  have n65535 : (c != 65535) = true := bne_iff_ne.2 (by omega)
  have d0 : decide (c < 0) = false := dF (by omega)
  have d1 : decide (1114111 < c) = false := dF (by omega)
  have d2 : decide (c < 55296) = true := dT (by omega)
  have d3 : decide (57343 < c) = false := dF (by omega)
  have d4 : decide (0 ≤ c) = true := dT (by omega)
  have d5 : decide (c < 32) = true := dT (by omega)
  have d6 : decide (127 ≤ c) = false := dF (by omega)
  have d7 : decide (c ≤ 159) = true := dT (by omega)
  have d8 : decide (32 ≤ c) = false := dF (by omega)
  have d9 : decide (c ≤ 126) = true := dT (by omega)
  have d10 : decide (160 ≤ c) = false := dF (by omega)
  have d11 : decide (c ≤ 55295) = true := dT (by omega)
  have d12 : decide (57344 ≤ c) = false := dF (by omega)
  have d13 : decide (c ≤ 65533) = true := dT (by omega)
  have d14 : decide (65536 ≤ c) = false := dF (by omega)
  have d15 : decide (c ≤ 1114111) = true := dT (by omega)
  go_enter Try.func3, Try.ntmps3
  go_wp2
  go_ret
  exact ⟨rfl, Grown.refl _⟩

set_option maxHeartbeats 1000000 in
theorem w7 (c : Int) (w : World) (h1 : 32 ≤ c) (h2 : c ≤ 126) : Calls Try.prog 3 #[.int .i32 c] w fun e w' => e = .returned (.bool true) ∧ Grown w w' := by
  have e9 : (c == 9) = false := beq_eq_false_iff_ne.2 (by omega)
  have e10 : (c == 10) = false := beq_eq_false_iff_ne.2 (by omega)
  have e13 : (c == 13) = false := beq_eq_false_iff_ne.2 (by omega)
  have e133 : (c == 133) = false := beq_eq_false_iff_ne.2 (by omega)
  have n65534 : (c != 65534) = true := bne_iff_ne.2 (by omega)
  have n65535 : (c != 65535) = true := bne_iff_ne.2 (by omega)
  have d0 : decide (c < 0) = false := dF (by omega)
  have d1 : decide (1114111 < c) = false := dF (by omega)
  have d2 : decide (c < 55296) = true := dT (by omega)
  have d3 : decide (57343 < c) = false := dF (by omega)
  have d4 : decide (0 ≤ c) = true := dT (by omega)
  have d5 : decide (c < 32) = false := dF (by omega)
  have d6 : decide (127 ≤ c) = false := dF (by omega)
  have d7 : decide (c ≤ 159) = true := dT (by omega)
  have d8 : decide (32 ≤ c) = true := dT (by omega)
  have d9 : decide (c ≤ 126) = true := dT (by omega)
  have d10 : decide (160 ≤ c) = false := dF (by omega)
  have d11 : decide (c ≤ 55295) = true := dT (by omega)
  have d12 : decide (57344 ≤ c) = false := dF (by omega)
  have d13 : decide (c ≤ 65533) = true := dT (by omega)
  have d14 : decide (65536 ≤ c) = false := dF (by omega)
  have d15 : decide (c ≤ 1114111) = true := dT (by omega)
  go_enter Try.func3, Try.ntmps3
  go_wp2
  go_ret
  exact ⟨rfl, Grown.refl _⟩

set_option maxHeartbeats 1000000 in
theorem w8 (c : Int) (w : World) (h1 : 127 ≤ c) (h2 : c ≤ 132) : Calls Try.prog 3 #[.int .i32 c] w fun e w' => e = .returned (.bool true) ∧ Grown w w' := by
  have e9 : (c == 9) = false := beq_eq_false_iff_ne.2 (by omega)
  have e10 : (c == 10) = false := beq_eq_false_iff_ne.2 (by omega)
  have e13 : (c == 13) = false := beq_eq_false_iff_ne.2 (by omega)
  have e133 : (c == 133) = false := beq_eq_false_iff_ne.2 (by omega)
  have n65534 : (c != 65534) = true := bne_iff_ne.2 (by omega)
  have n65535 : (c != 65535) = true := bne_iff_ne.2 (by omega)
  have d0 : decide (c < 0) = false := dF (by omega)
  have d1 : decide (1114111 < c) = false := dF (by omega)
  have d2 : decide (c < 55296) = true := dT (by omega)
  have d3 : decide (57343 < c) = false := dF (by omega)
  have d4 : decide (0 ≤ c) = true := dT (by omega)
  have d5 : decide (c < 32) = false := dF (by omega)
  have d6 : decide (127 ≤ c) = true := dT (by omega)
  have d7 : decide (c ≤ 159) = true := dT (by omega)
  have d8 : decide (32 ≤ c) = true := dT (by omega)
  have d9 : decide (c ≤ 126) = false := dF (by omega)
  have d10 : decide (160 ≤ c) = false := dF (by omega)
  have d11 : decide (c ≤ 55295) = true := dT (by omega)
  have d12 : decide (57344 ≤ c) = false := dF (by omega)
  have d13 : decide (c ≤ 65533) = true := dT (by omega)
  have d14 : decide (65536 ≤ c) = false := dF (by omega)
  have d15 : decide (c ≤ 1114111) = true := dT (by omega)
  go_enter Try.func3, Try.ntmps3
  go_wp2
  go_ret
  exact ⟨rfl, Grown.refl _⟩

set_option maxHeartbeats 1000000 in
theorem w9 (w : World) : Calls Try.prog 3 #[.int .i32 133] w fun e w' => e = .returned (.bool true) ∧ Grown w w' := by
  go_enter Try.func3, Try.ntmps3
  go_wp2
  go_ret
  exact ⟨rfl, Grown.refl _⟩

set_option maxHeartbeats 1000000 in
theorem w10 (c : Int) (w : World) (h1 : 134 ≤ c) (h2 : c ≤ 159) : Calls Try.prog 3 #[.int .i32 c] w fun e w' => e = .returned (.bool true) ∧ Grown w w' := by
  have e9 : (c == 9) = false := beq_eq_false_iff_ne.2 (by omega)
  have e10 : (c == 10) = false := beq_eq_false_iff_ne.2 (by omega)
  have e13 : (c == 13) = false := beq_eq_false_iff_ne.2 (by omega)
  have e133 : (c == 133) = false := beq_eq_false_iff_ne.2 (by omega)
  have n65534 : (c != 65534) = true := bne_iff_ne.2 (by omega)
  have n65535 : (c != 65535) = true := bne_iff_ne.2 (by omega)
  have d0 : decide (c < 0) = false := dF (by omega)
  have d1 : decide (1114111 < c) = false := dF (by omega)
  have d2 : decide (c < 55296) = true := dT (by omega)
  have d3 : decide (57343 < c) = false := dF (by omega)
  have d4 : decide (0 ≤ c) = true := dT (by omega)
  have d5 : decide (c < 32) = false := dF (by omega)
  have d6 : decide (127 ≤ c) = true := dT (by omega)
  have d7 : decide (c ≤ 159) = true := dT (by omega)
  have d8 : decide (32 ≤ c) = true := dT (by omega)
  have d9 : decide (c ≤ 126) = false := dF (by omega)
  have d10 : decide (160 ≤ c) = false := dF (by omega)
  have d11 : decide (c ≤ 55295) = true := dT (by omega)
  have d12 : decide (57344 ≤ c) = false := dF (by omega)
  have d13 : decide (c ≤ 65533) = true := dT (by omega)
  have d14 : decide (65536 ≤ c) = false := dF (by omega)
  have d15 : decide (c ≤ 1114111) = true := dT (by omega)
  go_enter Try.func3, Try.ntmps3
  go_wp2
  go_ret
  exact ⟨rfl, Grown.refl _⟩

set_option maxHeartbeats 1000000 in
theorem w11 (c : Int) (w : World) (h1 : 160 ≤ c) (h2 : c ≤ 55295) : Calls Try.prog 3 #[.int .i32 c] w fun e w' => e = .returned (.bool true) ∧ Grown w w' := by
  have e9 : (c == 9) = false := beq_eq_false_iff_ne.2 (by omega)
  have e10 : (c == 10) = false := beq_eq_false_iff_ne.2 (by omega)
  have e13 : (c == 13) = false := beq_eq_false_iff_ne.2 (by omega)
  have e133 : (c == 133) = false := beq_eq_false_iff_ne.2 (by omega)
  have n65534 : (c != 65534) = true := bne_iff_ne.2 (by omega)
  have n65535 : (c != 65535) = true := bne_iff_ne.2 (by omega)
  have d0 : decide (c < 0) = false := dF (by omega)
  have d1 : decide (1114111 < c) = false := dF (by omega)
  have d2 : decide (c < 55296) = true := dT (by omega)
  have d3 : decide (57343 < c) = false := dF (by omega)
  have d4 : decide (0 ≤ c) = true := dT (by omega)
  have d5 : decide (c < 32) = false := dF (by omega)
  have d6 : decide (127 ≤ c) = true := dT (by omega)
  have d7 : decide (c ≤ 159) = false := dF (by omega)
  have d8 : decide (32 ≤ c) = true := dT (by omega)
  have d9 : decide (c ≤ 126) = false := dF (by omega)
  have d10 : decide (160 ≤ c) = true := dT (by omega)
  have d11 : decide (c ≤ 55295) = true := dT (by omega)
  have d12 : decide (57344 ≤ c) = false := dF (by omega)
  have d13 : decide (c ≤ 65533) = true := dT (by omega)
  have d14 : decide (65536 ≤ c) = false := dF (by omega)
  have d15 : decide (c ≤ 1114111) = true := dT (by omega)
  go_enter Try.func3, Try.ntmps3
  go_wp2
  go_ret
  exact ⟨rfl, Grown.refl _⟩

set_option maxHeartbeats 1000000 in
theorem w12 (c : Int) (w : World) (h1 : 55296 ≤ c) (h2 : c ≤ 57343) : Calls Try.prog 3 #[.int .i32 c] w fun e w' => e = .returned (.bool true) ∧ Grown w w' := by
  have e9 : (c == 9) = false := beq_eq_false_iff_ne.2 (by omega)
  have e10 : (c == 10) = false := beq_eq_false_iff_ne.2 (by omega)
  have e13 : (c == 13) = false := beq_eq_false_iff_ne.2 (by omega)
  have e133 : (c == 133) = false := beq_eq_false_iff_ne.2 (by omega)
  have n65534 : (c != 65534) = true := bne_iff_ne.2 (by omega)
  have n65535 : (c != 65535) = true := bne_iff_ne.2 (by omega)
  have d0 : decide (c < 0) = false := dF (by omega)
  have d1 : decide (1114111 < c) = false := dF (by omega)
  have d2 : decide (c < 55296) = false := dF (by omega)
  have d3 : decide (57343 < c) = false := dF (by omega)
  have d4 : decide (0 ≤ c) = true := dT (by omega)
  have d5 : decide (c < 32) = false := dF (by omega)
  have d6 : decide (127 ≤ c) = true := dT (by omega)
  have d7 : decide (c ≤ 159) = false := dF (by omega)
  have d8 : decide (32 ≤ c) = true := dT (by omega)
  have d9 : decide (c ≤ 126) = false := dF (by omega)
  have d10 : decide (160 ≤ c) = true := dT (by omega)
  have d11 : decide (c ≤ 55295) = false := dF (by omega)
  have d12 : decide (57344 ≤ c) = false := dF (by omega)
  have d13 : decide (c ≤ 65533) = true := dT (by omega)
  have d14 : decide (65536 ≤ c) = false := dF (by omega)
  have d15 : decide (c ≤ 1114111) = true := dT (by omega)
  go_enter Try.func3, Try.ntmps3
  go_wp2
  go_ret
  exact ⟨rfl, Grown.refl _⟩

set_option maxHeartbeats 1000000 in
theorem w13 (c : Int) (w : World) (h1 : 57344 ≤ c) (h2 : c ≤ 65533) : Calls Try.prog 3 #[.int .i32 c] w fun e w' => e = .returned (.bool true) ∧ Grown w w' := by
  have e9 : (c == 9) = false := beq_eq_false_iff_ne.2 (by omega)
  have e10 : (c == 10) = false := beq_eq_false_iff_ne.2 (by omega)
  have e13 : (c == 13) = false := beq_eq_false_iff_ne.2 (by omega)
  have e133 : (c == 133) = false := beq_eq_false_iff_ne.2 (by omega)
  have n65534 : (c != 65534) = true := bne_iff_ne.2 (by omega)
  have n65535 : (c != 65535) = true := bne_iff_ne.2 (by omega)
  have d0 : decide (c < 0) = false := dF (by omega)
  have d1 : decide (1114111 < c) = false := dF (by omega)
  have d2 : decide (c < 55296) = false := dF (by omega)
  have d3 : decide (57343 < c) = true := dT (by omega)
  have d4 : decide (0 ≤ c) = true := dT (by omega)
  have d5 : decide (c < 32) = false := dF (by omega)
  have d6 : decide (127 ≤ c) = true := dT (by omega)
  have d7 : decide (c ≤ 159) = false := dF (by omega)
  have d8 : decide (32 ≤ c) = true := dT (by omega)
  have d9 : decide (c ≤ 126) = false := dF (by omega)
  have d10 : decide (160 ≤ c) = true := dT (by omega)
  have d11 : decide (c ≤ 55295) = false := dF (by omega)
  have d12 : decide (57344 ≤ c) = true := dT (by omega)
  have d13 : decide (c ≤ 65533) = true := dT (by omega)
  have d14 : decide (65536 ≤ c) = false := dF (by omega)
  have d15 : decide (c ≤ 1114111) = true := dT (by omega)
  go_enter Try.func3, Try.ntmps3
  go_wp2
  go_ret
  exact ⟨rfl, Grown.refl _⟩

set_option maxHeartbeats 1000000 in
theorem w14 (w : World) : Calls Try.prog 3 #[.int .i32 65534] w fun e w' => e = .returned (.bool true) ∧ Grown w w' := by
  go_enter Try.func3, Try.ntmps3
  go_wp2
  go_ret
  exact ⟨rfl, Grown.refl _⟩

set_option maxHeartbeats 1000000 in
theorem w15 (w : World) : Calls Try.prog 3 #[.int .i32 65535] w fun e w' => e = .returned (.bool true) ∧ Grown w w' := by
  go_enter Try.func3, Try.ntmps3
  go_wp2
  go_ret
  exact ⟨rfl, Grown.refl _⟩

set_option maxHeartbeats 1000000 in
theorem w16 (c : Int) (w : World) (h1 : 65536 ≤ c) (h2 : c ≤ 1114111) : Calls Try.prog 3 #[.int .i32 c] w fun e w' => e = .returned (.bool true) ∧ Grown w w' := by
  have e9 : (c == 9) = false := beq_eq_false_iff_ne.2 (by omega)
  have e10 : (c == 10) = false := beq_eq_false_iff_ne.2 (by omega)
  have e13 : (c == 13) = false := beq_eq_false_iff_ne.2 (by omega)
  have e133 : (c == 133) = false := beq_eq_false_iff_ne.2 (by omega)
  have n65534 : (c != 65534) = true := bne_iff_ne.2 (by omega)
  have n65535 : (c != 65535) = true := bne_iff_ne.2 (by omega)
  have d0 : decide (c < 0) = false := dF (by omega)
  have d1 : decide (1114111 < c) = false := dF (by omega)
  have d2 : decide (c < 55296) = false := dF (by omega)
  have d3 : decide (57343 < c) = true := dT (by omega)
  have d4 : decide (0 ≤ c) = true := dT (by omega)
  have d5 : decide (c < 32) = false := dF (by omega)
  have d6 : decide (127 ≤ c) = true := dT (by omega)
  have d7 : decide (c ≤ 159) = false := dF (by omega)
  have d8 : decide (32 ≤ c) = true := dT (by omega)
  have d9 : decide (c ≤ 126) = false := dF (by omega)
  have d10 : decide (160 ≤ c) = true := dT (by omega)
  have d11 : decide (c ≤ 55295) = false := dF (by omega)
  have d12 : decide (57344 ≤ c) = true := dT (by omega)
  have d13 : decide (c ≤ 65533) = false := dF (by omega)
  have d14 : decide (65536 ≤ c) = true := dT (by omega)
  have d15 : decide (c ≤ 1114111) = true := dT (by omega)
  go_enter Try.func3, Try.ntmps3
  go_wp2
  go_ret
  exact ⟨rfl, Grown.refl _⟩

set_option maxHeartbeats 1000000 in
theorem w17 (c : Int) (w : World) (h1 : 1114112 ≤ c) : Calls Try.prog 3 #[.int .i32 c] w fun e w' => e = .returned (.bool true) ∧ Grown w w' := by
  have e9 : (c == 9) = false := beq_eq_false_iff_ne.2 (by omega)
  have e10 : (c == 10) = false := beq_eq_false_iff_ne.2 (by omega)
  have e13 : (c == 13) = false := beq_eq_false_iff_ne.2 (by omega)
  have e133 : (c == 133) = false := beq_eq_false_iff_ne.2 (by omega)
  have n65534 : (c != 65534) = true := bne_iff_ne.2 (by omega)
  have n65535 : (c != 65535) = true := bne_iff_ne.2 (by omega)
  have d0 : decide (c < 0) = false := dF (by omega)
  have d1 : decide (1114111 < c) = true := dT (by omega)
  have d2 : decide (c < 55296) = false := dF (by omega)
  have d3 : decide (57343 < c) = true := dT (by omega)
  have d4 : decide (0 ≤ c) = true := dT (by omega)
  have d5 : decide (c < 32) = false := dF (by omega)
  have d6 : decide (127 ≤ c) = true := dT (by omega)
  have d7 : decide (c ≤ 159) = false := dF (by omega)
  have d8 : decide (32 ≤ c) = true := dT (by omega)
  have d9 : decide (c ≤ 126) = false := dF (by omega)
  have d10 : decide (160 ≤ c) = true := dT (by omega)
  have d11 : decide (c ≤ 55295) = false := dF (by omega)
  have d12 : decide (57344 ≤ c) = true := dT (by omega)
  have d13 : decide (c ≤ 65533) = false := dF (by omega)
  have d14 : decide (65536 ≤ c) = true := dT (by omega)
  have d15 : decide (c ≤ 1114111) = false := dF (by omega)
  go_enter Try.func3, Try.ntmps3
  go_wp2
  go_ret
  exact ⟨rfl, Grown.refl _⟩

theorem walk (c : Int) (w : World) : Calls Try.prog 3 #[.int .i32 c] w fun e w' => e = .returned (.bool true) ∧ Grown w w' := by
  by_cases h0 : c ≤ -1
  · exact w0 c w h0
  by_cases h1 : c ≤ 8
  · exact w1 c w (by omega) h1
  by_cases h2 : c = 9
  · subst h2; exact w2 w
  by_cases h3 : c = 10
  · subst h3; exact w3 w
  by_cases h4 : c ≤ 12
  · exact w4 c w (by omega) h4
  by_cases h5 : c = 13
  · subst h5; exact w5 w
  by_cases h6 : c ≤ 31
  · exact w6 c w (by omega) h6
  by_cases h7 : c ≤ 126
  · exact w7 c w (by omega) h7
  by_cases h8 : c ≤ 132
  · exact w8 c w (by omega) h8
  by_cases h9 : c = 133
  · subst h9; exact w9 w
  by_cases h10 : c ≤ 159
  · exact w10 c w (by omega) h10
  by_cases h11 : c ≤ 55295
  · exact w11 c w (by omega) h11
  by_cases h12 : c ≤ 57343
  · exact w12 c w (by omega) h12
  by_cases h13 : c ≤ 65533
  · exact w13 c w (by omega) h13
  by_cases h14 : c = 65534
  · subst h14; exact w14 w
  by_cases h15 : c = 65535
  · subst h15; exact w15 w
  by_cases h16 : c ≤ 1114111
  · exact w16 c w (by omega) h16
  exact w17 c w (by omega)

end Go.Proofs.Qxb6612500a
