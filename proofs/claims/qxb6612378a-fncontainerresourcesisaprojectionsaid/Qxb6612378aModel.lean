import Derived.Test.Qxb6612378aMaps
namespace Go.Proofs.Qxb6612378a
open Go.RowKit Go.WideMaps Go.Maps

def lim : ByteArray := ⟨#[108, 105, 109, 105, 116, 115]⟩
def req : ByteArray := ⟨#[114, 101, 113, 117, 101, 115, 116, 115]⟩
def res : ByteArray := ⟨#[114, 101, 115, 111, 117, 114, 99, 101, 115]⟩

theorem is_of {u : ByteArray} (c : ByteArray) {l : List UInt8} (hc : c.data.toList = l) (h : (u.toList == l) = true) : u = c :=
  WideShapes.bytes_inj (by rw [hc, ← ByteArray.toList_eq]; exact eq_of_beq h)
theorem not_of {u : ByteArray} (c : ByteArray) {l : List UInt8} (hc : c.data.toList = l) (h : (u.toList == l) = false) : ¬ u = c := by
  rintro rfl
  rw [ByteArray.toList_eq, hc] at h
  simp at h
theorem is_lim {u : ByteArray} (h : (u.toList == [108, 105, 109, 105, 116, 115]) = true) : u = lim := is_of lim rfl h
theorem not_lim {u : ByteArray} (h : (u.toList == [108, 105, 109, 105, 116, 115]) = false) : ¬ u = lim := not_of lim rfl h
theorem is_req {u : ByteArray} (h : (u.toList == [114, 101, 113, 117, 101, 115, 116, 115]) = true) : u = req := is_of req rfl h
theorem not_req {u : ByteArray} (h : (u.toList == [114, 101, 113, 117, 101, 115, 116, 115]) = false) : ¬ u = req := not_of req rfl h

def txt (o : Option ByteArray) : ByteArray := o.getD ⟨#[]⟩

set_option maxHeartbeats 400000 in
theorem model_no (a1 a2 : Option Addr) (l1 l2 c1 c2 : Nat) (w : World) :
    Calls Try.prog 7 #[.bool false, .slice a1 l1 c1, .slice a2 l2 c2] w fun e w' =>
      e = .returned (.tuple #[.string ⟨#[]⟩, .bool false, .string ⟨#[]⟩, .bool false]) ∧ w' = w := by
  go_enter Try.func7, Try.ntmps7
  go_wp2
  exact bodyPost_ret (v := .tuple #[.string ⟨#[]⟩, .bool false, .string ⟨#[]⟩, .bool false]) (by simp [results, Try.results7, go_sem]) rfl ⟨rfl, rfl⟩

set_option maxHeartbeats 400000 in
theorem model_yes (a1 a2 : Option Addr) (l1 l2 c1 c2 b1 b2 o1 o2 : Nat) (s1 s2 : List ByteArray) (w : World)
    (h1 : SL w a1 l1 c1 b1 o1 s1) (h2 : SL w a2 l2 c2 b2 o2 s2) (m1 : l1 ≤ 1048576) :
    Calls Try.prog 7 #[.bool true, .slice a1 l1 c1, .slice a2 l2 c2] w fun e w' =>
      e = .returned (.tuple #[.string (txt (Rm lim s1 s2 (min l1 l2))), .bool (Rm lim s1 s2 (min l1 l2)).isSome, .string (txt (Rm req s1 s2 (min l1 l2))), .bool (Rm req s1 s2 (min l1 l2)).isSome]) ∧ w' = w := by
  go_enter Try.func7, Try.ntmps7
  go_wp2
  go_loop [6, 7, 8, 9, 10] (fun x6 x7 x8 x9 i => ∃ k : Nat, k ≤ min l1 l2 ∧ i = .int .i64 k ∧ x6 = .string (txt (Rm lim s1 s2 k)) ∧ x7 = .bool (Rm lim s1 s2 k).isSome ∧ x8 = .string (txt (Rm req s1 s2 k)) ∧ x9 = .bool (Rm req s1 s2 k).isSome)
    (fun _ _ _ _ i => min l1 l2 - (intOf i).toNat)
  case atStart => exact ⟨0, Nat.zero_le _, rfl, rfl, rfl, rfl, rfl⟩
  case round =>
    obtain ⟨k, hk, rfl, rfl, rfl, rfl, rfl⟩ := hrel
    by_cases hlt : k < l1 ∧ k < l2
    · obtain ⟨hlt1, hlt2⟩ := hlt
      have hi1 := fun w' => h1.idx k w' hlt1
      have hi2 := fun w' => h2.idx k w' hlt2
      have hc1 := h1.cell k hlt1
      have hc2 := h2.cell k hlt2
      have hL : Hid (Rm lim s1 s2 (k + 1) = if s1.getD k ByteArray.empty = lim then some (s2.getD k ByteArray.empty) else Rm lim s1 s2 k) := rfl
      have hR : Hid (Rm req s1 s2 (k + 1) = if s1.getD k ByteArray.empty = req then some (s2.getD k ByteArray.empty) else Rm req s1 s2 k) := rfl
      generalize s1.getD k ByteArray.empty = u1 at hc1 hL hR
      generalize s2.getD k ByteArray.empty = u2 at hc2 hL hR
      generalize Rm lim s1 s2 k = y1 at *
      generalize Rm req s1 s2 k = y2 at *
      clear h1 h2
      go_wp2
      all_goals
        go_round
        case rel =>
          refine ⟨k + 1, by omega, by go_num, ?_, ?_, ?_, ?_⟩
          · rw [hL.out]; first | rw [if_pos (is_lim ‹_›)]; rfl | rw [if_neg (not_lim ‹_›)]
          · rw [hL.out]; first | rw [if_pos (is_lim ‹_›)]; rfl | rw [if_neg (not_lim ‹_›)]
          · rw [hR.out]; first | rw [if_pos (is_req ‹_›)]; rfl | rw [if_neg (not_req ‹_›)]
          · rw [hR.out]; first | rw [if_pos (is_req ‹_›)]; rfl | rw [if_neg (not_req ‹_›)]
        case measure => simp [intOf]; omega
    · have hmin : min l1 l2 = k := by omega
      have hL : Hid (Rm lim s1 s2 (min l1 l2) = Rm lim s1 s2 k) := by rw [hmin]; rfl
      have hR : Hid (Rm req s1 s2 (min l1 l2) = Rm req s1 s2 k) := by rw [hmin]; rfl
      clear h1 h2 hmin
      by_cases hd : k < l1
      all_goals
        go_wp2
        refine bodyPost_ret (v := .tuple #[.string (txt (Rm lim s1 s2 k)), .bool (Rm lim s1 s2 k).isSome, .string (txt (Rm req s1 s2 k)), .bool (Rm req s1 s2 k).isSome]) (by simp [results, Try.results7, go_sem]) rfl ⟨?_, rfl⟩
        rw [hL.out, hR.out]

theorem count_any (x y : Bool) (w : World) : Calls Try.prog 9 #[.bool x, .bool y] w fun e w' => e = .returned (.int .i64 ((if x then 1 else 0) + (if y then 1 else 0))) ∧ w' = w := by
  cases x <;> cases y
  all_goals
    go_enter Try.func9, Try.ntmps9
    go_wp2
    go_ret
    exact ⟨rfl, rfl⟩
end Go.Proofs.Qxb6612378a
