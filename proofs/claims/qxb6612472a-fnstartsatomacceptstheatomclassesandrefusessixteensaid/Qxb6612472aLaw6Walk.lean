import Derived.Test.Qxb6612472aAtom
namespace Go.Proofs.Qxb6612472a
open Go.RowKit

/-- How many of the first k characters are refused. -/
def cr : Nat → Int
  | 0 => 0
  | k + 1 => cr k + (if sa (k : Int) then 0 else 1)

theorem cr_bd : ∀ k, 0 ≤ cr k ∧ cr k ≤ k
  | 0 => by simp [cr]
  | k + 1 => by
    have := cr_bd k
    unfold cr
    split <;> omega

theorem cr_128 : cr 128 = 16 := by decide +kernel

theorem cr_step_t (k : Nat) (h : sa (k : Int) = true) : cr (k + 1) = cr k := by
  show cr k + (if sa (k : Int) then 0 else 1) = _
  rw [h]; simp
theorem cr_step_f (k : Nat) (h : sa (k : Int) = false) : cr (k + 1) = cr k + 1 := by
  show cr k + (if sa (k : Int) then 0 else 1) = _
  rw [h]; simp

set_option maxHeartbeats 400000 in
set_option maxRecDepth 100000 in
theorem law6_loop (c : Int) (w : World) (want : Bool) (HW : Hid (sa c = want)) (hr : (0 ≤ c ∧ c < 128) ∨ (want = true ∧ (c < 0 ∨ 128 ≤ c))) :
    Calls Try.prog 3 #[.int .i32 c] w fun e w' => e = .returned (.bool true) ∧ Grown w w' := by
  rcases hr with ⟨h0, h1⟩ | ⟨rfl, hr⟩
  · go_enter Try.func3, Try.ntmps3
    go_wp2_with fail
    refine (atom_any c w h0 h1).mono ?_
    rintro e w' ⟨rfl, rfl⟩
    rw [HW.out]
    go_wp2_with fail
    refine (starts_any c w).mono ?_
    rintro e w' ⟨rfl, rfl⟩
    rw [HW.out]
    go_wp2_with fail
    go_loop [4, 5] (fun r i => ∃ (k : Nat) (z : Int), k ≤ 128 ∧ i = .int .i32 k ∧ r = .int .i64 z ∧ 0 ≤ z ∧ z ≤ k ∧ Hid (z = cr k)) (fun _ i => 128 - (intOf i).toNat)
    case atStart => exact ⟨0, 0, by omega, rfl, rfl, by omega, by omega, rfl⟩
    case round =>
      obtain ⟨k, z, hk, rfl, rfl, hz0, hz1, HZ⟩ := hrel
      by_cases hlt : k < 128
      · cases hsa : sa (k : Int)
        · have HS : Hid (sa (k : Int) = false) := hsa
          clear hsa
          have HC : Hid (cr (k + 1) = z + 1) := by unfold Hid; rw [cr_step_f k HS.out, HZ.out]
          go_wp2_with fail
          refine (starts_any (k : Int) w).mono ?_
          rintro e w' ⟨rfl, rfl⟩
          rw [HS.out]
          go_wp2
          go_round
          case rel => exact ⟨k + 1, z + 1, by omega, by go_num, rfl, by omega, by omega, HC.out.symm⟩
          case measure => simp [intOf]; omega
        · have HS : Hid (sa (k : Int) = true) := hsa
          clear hsa
          have HC : Hid (cr (k + 1) = z) := by unfold Hid; rw [cr_step_t k HS.out, HZ.out]
          go_wp2_with fail
          refine (starts_any (k : Int) w).mono ?_
          rintro e w' ⟨rfl, rfl⟩
          rw [HS.out]
          go_wp2
          go_round
          case rel => exact ⟨k + 1, z, by omega, by go_num, rfl, by omega, by omega, HC.out.symm⟩
          case measure => simp [intOf]; omega
      · have e16 : (z == 16) = true := by
          have hk' : k = 128 := by omega
          rw [HZ.out, hk', cr_128]; rfl
        go_wp2
        go_ret
        exact ⟨rfl, Grown.refl _⟩
  · rcases hr with h | h
    · go_enter Try.func3, Try.ntmps3
      go_wp2_with fail
      refine (starts_any c w).mono ?_
      rintro e w' ⟨rfl, rfl⟩
      rw [HW.out]
      go_wp2_with fail
      go_loop [4, 5] (fun r i => ∃ (k : Nat) (z : Int), k ≤ 128 ∧ i = .int .i32 k ∧ r = .int .i64 z ∧ 0 ≤ z ∧ z ≤ k ∧ Hid (z = cr k)) (fun _ i => 128 - (intOf i).toNat)
      case atStart => exact ⟨0, 0, by omega, rfl, rfl, by omega, by omega, rfl⟩
      case round =>
        obtain ⟨k, z, hk, rfl, rfl, hz0, hz1, HZ⟩ := hrel
        by_cases hlt : k < 128
        · cases hsa : sa (k : Int)
          · have HS : Hid (sa (k : Int) = false) := hsa
            clear hsa
            have HC : Hid (cr (k + 1) = z + 1) := by unfold Hid; rw [cr_step_f k HS.out, HZ.out]
            go_wp2_with fail
            refine (starts_any (k : Int) w).mono ?_
            rintro e w' ⟨rfl, rfl⟩
            rw [HS.out]
            go_wp2
            go_round
            case rel => exact ⟨k + 1, z + 1, by omega, by go_num, rfl, by omega, by omega, HC.out.symm⟩
            case measure => simp [intOf]; omega
          · have HS : Hid (sa (k : Int) = true) := hsa
            clear hsa
            have HC : Hid (cr (k + 1) = z) := by unfold Hid; rw [cr_step_t k HS.out, HZ.out]
            go_wp2_with fail
            refine (starts_any (k : Int) w).mono ?_
            rintro e w' ⟨rfl, rfl⟩
            rw [HS.out]
            go_wp2
            go_round
            case rel => exact ⟨k + 1, z, by omega, by go_num, rfl, by omega, by omega, HC.out.symm⟩
            case measure => simp [intOf]; omega
        · have e16 : (z == 16) = true := by
            have hk' : k = 128 := by omega
            rw [HZ.out, hk', cr_128]; rfl
          go_wp2
          go_ret
          exact ⟨rfl, Grown.refl _⟩
    · go_enter Try.func3, Try.ntmps3
      go_wp2_with fail
      refine (starts_any c w).mono ?_
      rintro e w' ⟨rfl, rfl⟩
      rw [HW.out]
      go_wp2_with fail
      go_loop [4, 5] (fun r i => ∃ (k : Nat) (z : Int), k ≤ 128 ∧ i = .int .i32 k ∧ r = .int .i64 z ∧ 0 ≤ z ∧ z ≤ k ∧ Hid (z = cr k)) (fun _ i => 128 - (intOf i).toNat)
      case atStart => exact ⟨0, 0, by omega, rfl, rfl, by omega, by omega, rfl⟩
      case round =>
        obtain ⟨k, z, hk, rfl, rfl, hz0, hz1, HZ⟩ := hrel
        by_cases hlt : k < 128
        · cases hsa : sa (k : Int)
          · have HS : Hid (sa (k : Int) = false) := hsa
            clear hsa
            have HC : Hid (cr (k + 1) = z + 1) := by unfold Hid; rw [cr_step_f k HS.out, HZ.out]
            go_wp2_with fail
            refine (starts_any (k : Int) w).mono ?_
            rintro e w' ⟨rfl, rfl⟩
            rw [HS.out]
            go_wp2
            go_round
            case rel => exact ⟨k + 1, z + 1, by omega, by go_num, rfl, by omega, by omega, HC.out.symm⟩
            case measure => simp [intOf]; omega
          · have HS : Hid (sa (k : Int) = true) := hsa
            clear hsa
            have HC : Hid (cr (k + 1) = z) := by unfold Hid; rw [cr_step_t k HS.out, HZ.out]
            go_wp2_with fail
            refine (starts_any (k : Int) w).mono ?_
            rintro e w' ⟨rfl, rfl⟩
            rw [HS.out]
            go_wp2
            go_round
            case rel => exact ⟨k + 1, z, by omega, by go_num, rfl, by omega, by omega, HC.out.symm⟩
            case measure => simp [intOf]; omega
        · have e16 : (z == 16) = true := by
            have hk' : k = 128 := by omega
            rw [HZ.out, hk', cr_128]; rfl
          go_wp2
          go_ret
          exact ⟨rfl, Grown.refl _⟩

theorem law6_walk (c : Int) (w : World) : Calls Try.prog 3 #[.int .i32 c] w fun e w' => e = .returned (.bool true) ∧ Grown w w' := by
  by_cases h : 0 ≤ c ∧ c < 128
  · exact law6_loop c w (sa c) rfl (.inl h)
  · have hs : sa c = true := sa_not (by intro r hr; simp only [refused, List.mem_cons, List.not_mem_nil, or_false] at hr; omega)
    exact law6_loop c w true hs (.inr ⟨rfl, by omega⟩)

end Go.Proofs.Qxb6612472a
