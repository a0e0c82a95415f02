import Derived.Test.Qxb6612378aDoorParse
namespace Go.Proofs.Qxb6612378aDoor
open Go.RowKit

/-- What zzDecimalModel comes to from 'mag = m' on, the bytes r still to be read. -/
def step (neg : Bool) (m : Nat) (r : List UInt8) : Int :=
  match Lib.parseUintM 18446744073709551615 m r with
  | .ok u => if neg then (if 9223372036854775808 ≤ u then -9223372036854775808 else -(u : Int)) else (if 9223372036854775807 < u then 9223372036854775807 else (u : Int))
  | .range => if neg then -9223372036854775808 else 9223372036854775807
  | _ => 0

theorem drop_at (s : ByteArray) (k : Nat) (h : k < s.size) : s.data.toList.drop k = s[k] :: s.data.toList.drop (k + 1) := by
  have hk : k < s.data.toList.length := by simpa using h
  rw [List.drop_eq_getElem_cons hk]; rfl
theorem drop_end (s : ByteArray) (k : Nat) (h : ¬ k < s.size) : s.data.toList.drop k = [] := by
  rw [List.drop_eq_nil_iff]; have : s.data.toList.length = s.size := by simp
  omega

theorem ret_eq {a b : Int} (h : b = a) : Ending.returned (.int .i64 a) = .returned (.int .i64 b) := by rw [h]

section
variable {v : Int} {neg : Bool} {a : Int} {d r : List UInt8} {c : UInt8}

theorem st_bad (h : v = step neg a.toNat d) (hd : d = c :: r) (hc : (c.toNat : Int) < 48 ∨ 57 < (c.toNat : Int)) : v = 0 := by
  rw [h, hd]
  unfold step Lib.parseUintM
  rw [if_neg (by omega)]

theorem st_over (h : v = step neg a.toNat d) (hd : d = c :: r) (h1 : 48 ≤ (c.toNat : Int)) (h2 : (c.toNat : Int) ≤ 57) (_ha : 0 ≤ a) (hm : (18446744073709551615 - ((c.toNat : Int) - 48)) / 10 < a) :
    v = if neg then -9223372036854775808 else 9223372036854775807 := by
  rw [h, hd]
  unfold step Lib.parseUintM
  rw [if_pos (by omega)]
  by_cases hx : 1844674407370955162 ≤ a.toNat
  · rw [if_pos hx]
  · rw [if_neg hx, if_pos (by omega)]

theorem st_go (h : v = step neg a.toNat d) (hd : d = c :: r) (h1 : 48 ≤ (c.toNat : Int)) (h2 : (c.toNat : Int) ≤ 57) (ha : 0 ≤ a) (hm : a ≤ (18446744073709551615 - ((c.toNat : Int) - 48)) / 10) :
    v = step neg (a * 10 + ((c.toNat : Int) - 48)).toNat r := by
  rw [h, hd]
  have e : (a * 10 + ((c.toNat : Int) - 48)).toNat = a.toNat * 10 + (c.toNat - 48) := by omega
  rw [e]
  conv => lhs; unfold step Lib.parseUintM
  rw [if_pos (by omega), if_neg (by omega), if_neg (by omega)]
  rfl

theorem st_end_pbig (h : v = step false a.toNat d) (hd : d = []) (_ha : 0 ≤ a) (hm : 9223372036854775807 < a) : v = 9223372036854775807 := by
  rw [h, hd]
  unfold step Lib.parseUintM
  simp only [Bool.false_eq_true, if_false]
  rw [if_pos (by omega)]
theorem st_end_p (h : v = step false a.toNat d) (hd : d = []) (ha : 0 ≤ a) (hm : a ≤ 9223372036854775807) : v = a := by
  rw [h, hd]
  unfold step Lib.parseUintM
  simp only [Bool.false_eq_true, if_false]
  rw [if_neg (by omega)]
  omega
theorem st_end_nbig (h : v = step true a.toNat d) (hd : d = []) (_ha : 0 ≤ a) (hm : 9223372036854775808 ≤ a) : v = -9223372036854775808 := by
  rw [h, hd]
  unfold step Lib.parseUintM
  simp only [if_true]
  rw [if_pos (by omega)]
theorem st_end_n (h : v = step true a.toNat d) (hd : d = []) (ha : 0 ≤ a) (hm : a < 9223372036854775808) : v = -a := by
  rw [h, hd]
  unfold step Lib.parseUintM
  simp only [if_true]
  rw [if_neg (by omega)]
  omega
end

theorem val_cons (c : UInt8) (r t : List UInt8) (neg : Bool) (hn : c.toNat = 45 ↔ neg = true) (ht : (if c.toNat = 43 ∨ c.toNat = 45 then r else c :: r) = t) (h0 : t ≠ []) : val (c :: r) = step neg 0 t := by
  have hU : Lib.parseUintB 64 t = Lib.parseUintM 18446744073709551615 0 t := by unfold Lib.parseUintB; rw [if_neg h0]
  have hI : Lib.intSat 64 (c :: r) = if neg then -9223372036854775808 else 9223372036854775807 := by
    unfold Lib.intSat
    cases neg
    · have : ¬ c.toNat = 45 := by simp [hn]
      simp [this]
    · have : c.toNat = 45 := hn.2 rfl
      simp [this]
  have e63 : (2 : Nat) ^ (64 - 1) = 9223372036854775808 := by decide
  unfold val
  rw [hI]
  unfold Lib.parseIntB step
  simp only [ht, hU, e63]
  cases Lib.parseUintM 18446744073709551615 0 t
  · rename_i u
    cases neg
    · have h45 : ¬ c.toNat = 45 := by simp [hn]
      simp only [h45, not_false_eq_true, true_and, false_and, if_false, Bool.false_eq_true]
      by_cases hu : 9223372036854775808 ≤ u
      · rw [if_pos hu, if_pos (by omega)]
      · rw [if_neg hu, if_neg (by omega)]
    · have h45 : c.toNat = 45 := hn.2 rfl
      simp only [h45, not_true_eq_false, false_and, if_false, true_and, if_true]
      by_cases hu : 9223372036854775808 < u
      · rw [if_pos hu, if_pos (by omega)]
      · rw [if_neg hu]
        by_cases hv : 9223372036854775808 ≤ u
        · rw [if_pos hv]; simp only; omega
        · rw [if_neg hv]
  · rfl
  · rfl

theorem val_nil : val [] = 0 := rfl

theorem val_sign (c : UInt8) (h : c.toNat = 43 ∨ c.toNat = 45) : val [c] = 0 := by
  unfold val Lib.parseIntB
  simp only [h, if_true]
  rfl

set_option maxHeartbeats 400000 in
theorem loop_plus (s : ByteArray) (w : World) (hs : s.size ≤ 65536) (hp : 0 < s.size) (h0 : ((s.size : Int) == 0) = false) (h43 : ((s[0].toNat : Int) == 43) = true) (h1 : ((1 : Int) == s.size) = false) (HS : Hid (val s.data.toList = step false (0 : Int).toNat (s.data.toList.drop 1))) :
    Calls Tryd.prog 8 #[.string s] w fun e w' => e = .returned (.int .i64 (val s.data.toList)) ∧ w = w' := by
  go_enter Tryd.func8, Tryd.ntmps8
  go_wp2
  go_loop [4, 5] (fun i m => ∃ (k : Nat) (a : Int), k ≤ s.size ∧ i = .int .i64 k ∧ m = .int .u64 a ∧ 0 ≤ a ∧ a ≤ 18446744073709551615 ∧ Hid (val s.data.toList = step false a.toNat (s.data.toList.drop k))) (fun i _ => s.size - (intOf i).toNat)
  case atStart => exact ⟨1, 0, by omega, rfl, rfl, by omega, by omega, HS⟩
  case round =>
    obtain ⟨k, a, hk, rfl, rfl, ha0, ha1, HV⟩ := hrel
    clear HS
    by_cases hlt : k < s.size
    · have hb : (s[k].toNat : Int) ≤ 255 := by have := s[k].toNat_lt; omega
      have HD : Hid (s.data.toList.drop k = s[k] :: s.data.toList.drop (k + 1)) := drop_at s k hlt
      go_wp2
      · go_ret
        exact ⟨ret_eq (st_bad HV.out HD.out (by omega)), rfl⟩
      · go_ret
        exact ⟨ret_eq (st_over HV.out HD.out (by omega) (by omega) ha0 ‹_›), rfl⟩
      · go_round
        case rel => exact ⟨k + 1, _, by omega, by go_num, rfl, by omega, by omega, st_go HV.out HD.out (by omega) (by omega) ha0 ‹_›⟩
        case measure => simp [intOf]; omega
      · go_ret
        exact ⟨ret_eq (st_bad HV.out HD.out (by omega)), rfl⟩
    · have HE : Hid (s.data.toList.drop k = []) := drop_end s k hlt
      go_wp2
      · go_ret
        exact ⟨ret_eq (st_end_pbig HV.out HE.out ha0 ‹_›), rfl⟩
      · go_ret
        exact ⟨ret_eq (st_end_p HV.out HE.out ha0 ‹_›), rfl⟩

set_option maxHeartbeats 400000 in
theorem loop_none (s : ByteArray) (w : World) (hs : s.size ≤ 65536) (hp : 0 < s.size) (h0 : ((s.size : Int) == 0) = false) (h43 : ((s[0].toNat : Int) == 43) = false) (h45 : ((s[0].toNat : Int) == 45) = false) (h1 : ((0 : Int) == s.size) = false) (HS : Hid (val s.data.toList = step false (0 : Int).toNat (s.data.toList.drop 0))) :
    Calls Tryd.prog 8 #[.string s] w fun e w' => e = .returned (.int .i64 (val s.data.toList)) ∧ w = w' := by
  go_enter Tryd.func8, Tryd.ntmps8
  go_wp2
  go_loop [4, 5] (fun i m => ∃ (k : Nat) (a : Int), k ≤ s.size ∧ i = .int .i64 k ∧ m = .int .u64 a ∧ 0 ≤ a ∧ a ≤ 18446744073709551615 ∧ Hid (val s.data.toList = step false a.toNat (s.data.toList.drop k))) (fun i _ => s.size - (intOf i).toNat)
  case atStart => exact ⟨0, 0, by omega, rfl, rfl, by omega, by omega, HS⟩
  case round =>
    obtain ⟨k, a, hk, rfl, rfl, ha0, ha1, HV⟩ := hrel
    clear HS
    by_cases hlt : k < s.size
    · have hb : (s[k].toNat : Int) ≤ 255 := by have := s[k].toNat_lt; omega
      have HD : Hid (s.data.toList.drop k = s[k] :: s.data.toList.drop (k + 1)) := drop_at s k hlt
      go_wp2
      · go_ret
        exact ⟨ret_eq (st_bad HV.out HD.out (by omega)), rfl⟩
      · go_ret
        exact ⟨ret_eq (st_over HV.out HD.out (by omega) (by omega) ha0 ‹_›), rfl⟩
      · go_round
        case rel => exact ⟨k + 1, _, by omega, by go_num, rfl, by omega, by omega, st_go HV.out HD.out (by omega) (by omega) ha0 ‹_›⟩
        case measure => simp [intOf]; omega
      · go_ret
        exact ⟨ret_eq (st_bad HV.out HD.out (by omega)), rfl⟩
    · have HE : Hid (s.data.toList.drop k = []) := drop_end s k hlt
      go_wp2
      · go_ret
        exact ⟨ret_eq (st_end_pbig HV.out HE.out ha0 ‹_›), rfl⟩
      · go_ret
        exact ⟨ret_eq (st_end_p HV.out HE.out ha0 ‹_›), rfl⟩

set_option maxHeartbeats 400000 in
theorem loop_minus (s : ByteArray) (w : World) (hs : s.size ≤ 65536) (hp : 0 < s.size) (h0 : ((s.size : Int) == 0) = false) (h43 : ((s[0].toNat : Int) == 43) = false) (h45 : ((s[0].toNat : Int) == 45) = true) (h1 : ((1 : Int) == s.size) = false) (HS : Hid (val s.data.toList = step true (0 : Int).toNat (s.data.toList.drop 1))) :
    Calls Tryd.prog 8 #[.string s] w fun e w' => e = .returned (.int .i64 (val s.data.toList)) ∧ w = w' := by
  go_enter Tryd.func8, Tryd.ntmps8
  go_wp2
  go_loop [4, 5] (fun i m => ∃ (k : Nat) (a : Int), k ≤ s.size ∧ i = .int .i64 k ∧ m = .int .u64 a ∧ 0 ≤ a ∧ a ≤ 18446744073709551615 ∧ Hid (val s.data.toList = step true a.toNat (s.data.toList.drop k))) (fun i _ => s.size - (intOf i).toNat)
  case atStart => exact ⟨1, 0, by omega, rfl, rfl, by omega, by omega, HS⟩
  case round =>
    obtain ⟨k, a, hk, rfl, rfl, ha0, ha1, HV⟩ := hrel
    clear HS
    by_cases hlt : k < s.size
    · have hb : (s[k].toNat : Int) ≤ 255 := by have := s[k].toNat_lt; omega
      have HD : Hid (s.data.toList.drop k = s[k] :: s.data.toList.drop (k + 1)) := drop_at s k hlt
      go_wp2
      · go_ret
        exact ⟨ret_eq (st_bad HV.out HD.out (by omega)), rfl⟩
      · go_ret
        exact ⟨ret_eq (st_over HV.out HD.out (by omega) (by omega) ha0 ‹_›), rfl⟩
      · go_round
        case rel => exact ⟨k + 1, _, by omega, by go_num, rfl, by omega, by omega, st_go HV.out HD.out (by omega) (by omega) ha0 ‹_›⟩
        case measure => simp [intOf]; omega
      · go_ret
        exact ⟨ret_eq (st_bad HV.out HD.out (by omega)), rfl⟩
    · have HE : Hid (s.data.toList.drop k = []) := drop_end s k hlt
      go_wp2
      · go_ret
        exact ⟨ret_eq (st_end_nbig HV.out HE.out ha0 ‹_›), rfl⟩
      · go_ret
        exact ⟨ret_eq (st_end_n HV.out HE.out ha0 ‹_›), rfl⟩

theorem data_cons (s : ByteArray) (hp : 0 < s.size) : s.data.toList = s[0] :: s.data.toList.drop 1 := by
  have := drop_at s 0 hp
  simpa using this

theorem data_drop_ne (s : ByteArray) (h : 1 < s.size) : s.data.toList.drop 1 ≠ [] := by
  have e : s.data.toList.length = s.size := by simp
  intro h1
  have := List.drop_eq_nil_iff.1 h1
  omega

set_option maxHeartbeats 400000 in
theorem model_any (s : ByteArray) (w : World) (hs : s.size ≤ 65536) :
    Calls Tryd.prog 8 #[.string s] w fun e w' => e = .returned (.int .i64 (val s.data.toList)) ∧ w = w' := by
  by_cases hp : 0 < s.size
  · have h0 : ((s.size : Int) == 0) = false := beq_eq_false_iff_ne.2 (by omega)
    have hd := data_cons s hp
    by_cases h43 : (s[0].toNat : Int) = 43
    · have b43 : ((s[0].toNat : Int) == 43) = true := beq_iff_eq.2 h43
      by_cases h1 : s.size = 1
      · have hv : val s.data.toList = 0 := by
          have e1 : s.data.toList.drop 1 = [] := drop_end s 1 (by omega)
          rw [hd, e1]
          exact val_sign _ (.inl (by omega))
        rw [hv]
        have b1 : ((1 : Int) == s.size) = true := beq_iff_eq.2 (by omega)
        clear hd hv h43
        go_enter Tryd.func8, Tryd.ntmps8
        go_wp2
        go_ret
        exact ⟨rfl, rfl⟩
      · have HS : Hid (val s.data.toList = step false (0 : Int).toNat (s.data.toList.drop 1)) := by
          have := val_cons s[0] (s.data.toList.drop 1) (s.data.toList.drop 1) false ⟨fun h => by omega, fun h => by cases h⟩ (if_pos (.inl (by omega))) (data_drop_ne s (by omega))
          rw [← hd] at this
          exact this
        exact loop_plus s w hs hp h0 b43 (beq_eq_false_iff_ne.2 (by omega)) HS
    · have b43 : ((s[0].toNat : Int) == 43) = false := beq_eq_false_iff_ne.2 h43
      by_cases h45 : (s[0].toNat : Int) = 45
      · have b45 : ((s[0].toNat : Int) == 45) = true := beq_iff_eq.2 h45
        by_cases h1 : s.size = 1
        · have hv : val s.data.toList = 0 := by
            have e1 : s.data.toList.drop 1 = [] := drop_end s 1 (by omega)
            rw [hd, e1]
            exact val_sign _ (.inr (by omega))
          rw [hv]
          have b1 : ((1 : Int) == s.size) = true := beq_iff_eq.2 (by omega)
          clear hd hv h45 h43
          go_enter Tryd.func8, Tryd.ntmps8
          go_wp2
          go_ret
          exact ⟨rfl, rfl⟩
        · have HS : Hid (val s.data.toList = step true (0 : Int).toNat (s.data.toList.drop 1)) := by
            have := val_cons s[0] (s.data.toList.drop 1) (s.data.toList.drop 1) true ⟨fun _ => rfl, fun _ => by omega⟩ (if_pos (.inr (by omega))) (data_drop_ne s (by omega))
            rw [← hd] at this
            exact this
          exact loop_minus s w hs hp h0 b43 b45 (beq_eq_false_iff_ne.2 (by omega)) HS
      · have b45 : ((s[0].toNat : Int) == 45) = false := beq_eq_false_iff_ne.2 h45
        have HS : Hid (val s.data.toList = step false (0 : Int).toNat (s.data.toList.drop 0)) := by
          have := val_cons s[0] (s.data.toList.drop 1) (s[0] :: s.data.toList.drop 1) false ⟨fun h => by omega, fun h => by cases h⟩ (if_neg (by omega)) (by simp)
          rw [← hd] at this
          exact this
        exact loop_none s w hs hp h0 b43 b45 (beq_eq_false_iff_ne.2 (by omega)) HS
  · have hv : val s.data.toList = 0 := by
      have e1 : s.data.toList = [] := by have := drop_end s 0 (by omega); simpa using this
      rw [e1]; exact val_nil
    rw [hv]
    have b0 : ((s.size : Int) == 0) = true := beq_iff_eq.2 (by omega)
    clear hv
    go_enter Tryd.func8, Tryd.ntmps8
    go_wp2
    go_ret
    exact ⟨rfl, rfl⟩

end Go.Proofs.Qxb6612378aDoor
