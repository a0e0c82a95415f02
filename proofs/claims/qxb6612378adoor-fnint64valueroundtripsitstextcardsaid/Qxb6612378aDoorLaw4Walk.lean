import Derived.Test.Qxb6612378aDoorLaid
import Derived.Test.Qxb6612378aDoorItoa
namespace Go.Proofs.Qxb6612378aDoor
open Go.RowKit

theorem digit_toNat (U j : Nat) : (UInt8.ofNat (48 + U / 10 ^ j % 10)).toNat = 48 + U / 10 ^ j % 10 := digit_val U j

/-- Reading back what was written. -/
theorem parse_Dg (U : Nat) : ∀ (j acc : Nat), acc * 10 ^ j + U % 10 ^ j ≤ 18446744073709551615 → Lib.parseUintM 18446744073709551615 acc (Dg U j) = .ok (acc * 10 ^ j + U % 10 ^ j)
  | 0, acc, _ => by simp [Dg, Lib.parseUintM, Nat.mod_one]
  | j + 1, acc, h => by
    have hm : U % 10 ^ (j + 1) = U % 10 ^ j + 10 ^ j * (U / 10 ^ j % 10) := by rw [Nat.pow_succ, Nat.mod_mul]
    have hp : 0 < 10 ^ j := Nat.pow_pos (by decide)
    have hpp : acc * 10 ^ (j + 1) = acc * 10 * 10 ^ j := by rw [Nat.pow_succ, Nat.mul_comm (10 ^ j) 10, Nat.mul_assoc]
    have key : (acc * 10 + U / 10 ^ j % 10) * 10 ^ j + U % 10 ^ j = acc * 10 ^ (j + 1) + U % 10 ^ (j + 1) := by
      rw [hm, hpp, Nat.add_mul, Nat.mul_comm (10 ^ j) (U / 10 ^ j % 10)]; omega
    have hle : acc * 10 + U / 10 ^ j % 10 ≤ 18446744073709551615 := by
      have h1 : (acc * 10 + U / 10 ^ j % 10) * 1 ≤ (acc * 10 + U / 10 ^ j % 10) * 10 ^ j := Nat.mul_le_mul_left _ hp
      omega
    unfold Dg Lib.parseUintM
    rw [digit_toNat]
    rw [if_pos (by omega), if_neg (by omega)]
    have e : 48 + U / 10 ^ j % 10 - 48 = U / 10 ^ j % 10 := by omega
    rw [e, if_neg (by omega), parse_Dg U j _ (by rw [key]; exact h), key]

theorem step_Dg (neg : Bool) (U j : Nat) (hU : U ≤ 18446744073709551615) (hz : U / 10 ^ j = 0) :
    step neg 0 (Dg U j) = if neg then (if 9223372036854775808 ≤ U then -9223372036854775808 else -(U : Int)) else (if 9223372036854775807 < U then 9223372036854775807 else (U : Int)) := by
  have hp : 0 < 10 ^ j := Nat.pow_pos (by decide)
  have hm : U % 10 ^ j = U := by
    rcases (Nat.div_eq_zero_iff).1 hz with h | h
    · omega
    · exact Nat.mod_eq_of_lt h
  have := parse_Dg U j 0 (by rw [hm]; omega)
  unfold step
  rw [this, hm]
  simp

theorem val_pos (U j : Nat) (hU : U ≤ 9223372036854775807) (hz : U / 10 ^ (j + 1) = 0) : val (Dg U (j + 1)) = (U : Int) := by
  have hd := digit_toNat U j
  have h := val_cons (UInt8.ofNat (48 + U / 10 ^ j % 10)) (Dg U j) (Dg U (j + 1)) false ⟨fun e => by omega, fun e => by cases e⟩ (if_neg (by omega)) (by simp [Dg])
  show val (UInt8.ofNat (48 + U / 10 ^ j % 10) :: Dg U j) = _
  rw [h, step_Dg false U (j + 1) (by omega) hz]
  simp only [Bool.false_eq_true, if_false]
  rw [if_neg (by omega)]

theorem val_neg (U j : Nat) (hU : U ≤ 9223372036854775808) (hz : U / 10 ^ (j + 1) = 0) : val (45 :: Dg U (j + 1)) = -(U : Int) := by
  have h := val_cons 45 (Dg U (j + 1)) (Dg U (j + 1)) true ⟨fun _ => rfl, fun _ => rfl⟩ (if_pos (.inr rfl)) (by simp [Dg])
  rw [h, step_Dg true U (j + 1) (by omega) hz]
  simp only [if_true]
  split <;> omega

theorem itoa_any (n : Int) (w : World) (h0 : -9223372036854775808 ≤ n) (h1 : n ≤ 9223372036854775807) :
    Calls Tryd.prog 9 #[.int .i64 n] w fun e w' => ∃ s : ByteArray, e = .returned (.string s) ∧ Hid (val s.data.toList = n) ∧ s.size ≤ 30 ∧ Below w.heap.size w w' := by
  by_cases hn : 0 ≤ n
  · obtain ⟨U, hU⟩ := Int.eq_ofNat_of_zero_le hn
    refine (itoa_pos n U w hn h1 hU).mono ?_
    rintro e w' ⟨j, rfl, hz, hj, hb⟩
    refine ⟨_, rfl, ?_, ?_, hb⟩
    · show val (Dg U (j + 1)).toArray.toList = n
      simp only []
      rw [val_pos U j (by omega) hz, hU]
    · show (Dg U (j + 1)).toArray.size ≤ 30
      simp [Dg_len]; omega
  · obtain ⟨U, hU⟩ := Int.eq_ofNat_of_zero_le (show 0 ≤ -(n + 1) + 1 by omega)
    refine (itoa_neg n U w (by omega) h0 hU).mono ?_
    rintro e w' ⟨j, rfl, hz, hj, hb⟩
    refine ⟨_, rfl, ?_, ?_, hb⟩
    · show val (45 :: Dg U (j + 1)).toArray.toList = n
      simp only []
      rw [val_neg U j (by omega) hz]
      omega
    · show (45 :: Dg U (j + 1)).toArray.size ≤ 30
      simp [Dg_len]; omega

set_option maxHeartbeats 400000 in
theorem law4_walk (n : Int) (w : World) (h0 : -9223372036854775808 ≤ n) (h1 : n ≤ 9223372036854775807) (hE : Errs w) :
    Calls Tryd.prog 4 #[.int .i64 n] w fun e w' => e = .returned (.bool true) ∧ Below w.heap.size w w' := by
  go_enter Tryd.func4, Tryd.ntmps4
  go_wp2_with fail
  refine (itoa_any n w h0 h1).mono ?_
  rintro e w1 ⟨s, rfl, HV, hs, b1⟩
  have hE1 := errs_below hE b1 (errs_size hE)
  go_wp2_with fail
  refine (zzNumber s (by omega) w1 hE1).mono ?_
  rintro e w2 ⟨rfl, b2⟩
  rw [HV.out]
  go_wp2_with fail
  refine (zzString s w2).mono ?_
  rintro e w3 ⟨rfl, rfl⟩
  go_wp2_with fail
  refine (zzInt64 n w2).mono ?_
  rintro e w3 ⟨rfl, rfl⟩
  go_wp2
  go_ret
  exact ⟨rfl, b1.trans (b2.mono b1.size)⟩

end Go.Proofs.Qxb6612378aDoor
