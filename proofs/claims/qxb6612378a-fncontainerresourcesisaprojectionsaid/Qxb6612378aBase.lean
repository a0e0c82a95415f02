import Derived.Test.Qxb6612378aRows
import Derived.WalkKit
import Derived.WalkSpells
import Derived.WalkLawsBesides
import Derived.Maps.OwnSet
namespace Go.Proofs.Qxb6612378a
open Go.RowKit

/-- The slice '.slice a len ..' reads, in w, as the strings ss (all of one block, b, from off on). -/
structure SL (w : World) (a : Option Addr) (len _cap b off : Nat) (ss : List ByteArray) : Prop where
  size : ss.length = len
  addr : 0 < len → a = some ⟨b, off, none⟩
  cell : ∀ k, k < len → w.cell? ⟨b, off + k, none⟩ = some (.string (ss.getD k ByteArray.empty))
  old : 0 < len → b < w.heap.size
  small : ∀ s ∈ ss, s.size ≤ maxLen

theorem size9 (w : World) : (sizeOf 9).run Try.prog w = .ok 1 w := by kernel_rfl
theorem elem22 : Try.prog.elem 22 = 9 := by simp [Program.elem, Try.underlying22]

theorem SL.idx {w : World} {a : Option Addr} {len cap b off : Nat} {ss : List ByteArray} (h : SL w a len cap b off ss) (k : Nat) (w' : World) (hk : k < len) :
    (Instr.indexAt 22 (.slice a len cap) (.int .i64 (k : Int))).run Try.prog w' = .ok (.pointer (some ⟨b, off + k, none⟩)) w' := by
  rw [h.addr (by omega), run_indexAt_slice w' 22 _ len cap .i64 k (by rw [elem22]; exact Try.underlying22), if_pos ⟨by omega, by omega⟩, elem22, size9]
  simp [Result.andThen, Addr.add]

set_option maxHeartbeats 400000 in
theorem addBytes_any (t : Int) (a : Option Addr) (len cap b off : Nat) (ss : List ByteArray) (w : World) (h : SL w a len cap b off ss) (hm : len ≤ maxLen) :
    Calls Try.prog 6 #[.int .i64 t, .slice a len cap] w fun e w' => (∃ n : Int, e = .returned (.int .i64 n)) ∧ w' = w := by
  unfold maxLen at hm
  go_enter Try.func6, Try.ntmps6
  go_wp2
  go_loop [0, 5] (fun tt i => ∃ (k : Nat) (x : Int), k ≤ len ∧ i = .int .i64 k ∧ tt = .int .i64 x) (fun _ i => len - (intOf i).toNat)
  case atStart => exact ⟨0, t, Nat.zero_le _, rfl, rfl⟩
  case round =>
    obtain ⟨k, x, hk, rfl, rfl⟩ := hrel
    by_cases hlt : k < len
    · have hi := fun w' => h.idx k w' hlt
      have hc := h.cell k hlt
      generalize ss.getD k ByteArray.empty = s at hc
      clear h
      go_wp2
      · go_ret
        exact ⟨⟨_, rfl⟩, rfl⟩
      · go_round
        case rel => exact ⟨k + 1, _, by omega, by go_num, rfl⟩
        case measure => simp [intOf]; omega
      · go_ret
        exact ⟨⟨_, rfl⟩, rfl⟩
    · clear h
      go_wp2
      go_ret
      exact ⟨⟨_, rfl⟩, rfl⟩

/-- It returns one bool. -/
def BoolRet (e : Ending) : Prop := ∃ x : Bool, e = .returned (.bool x)
theorem BoolRet.mk (x : Bool) : BoolRet (.returned (.bool x)) := ⟨x, rfl⟩

set_option maxHeartbeats 1000000 in
theorem bytes5_any (a1 a2 a3 a4 : Option Addr) (l1 l2 l3 l4 c1 c2 c3 c4 b1 b2 b3 b4 o1 o2 o3 o4 : Nat) (s1 s2 s3 s4 : List ByteArray) (wr : Bool) (w : World)
    (h1 : SL w a1 l1 c1 b1 o1 s1) (h2 : SL w a2 l2 c2 b2 o2 s2) (h3 : SL w a3 l3 c3 b3 o3 s3) (h4 : SL w a4 l4 c4 b4 o4 s4)
    (m1 : l1 ≤ maxLen) (m2 : l2 ≤ maxLen) (m3 : l3 ≤ maxLen) (m4 : l4 ≤ maxLen) :
    Calls Try.prog 5 #[.slice a1 l1 c1, .slice a2 l2 c2, .bool wr, .slice a3 l3 c3, .slice a4 l4 c4] w fun e w' => BoolRet e ∧ w' = w := by
  unfold maxLen at m1 m2 m3 m4
  go_enter Try.func5, Try.ntmps5
  go_wp2
  · go_ret
    exact ⟨BoolRet.mk _, rfl⟩
  go_loop [11, 12] (fun tt i => ∃ (k : Nat) (x : Int), k ≤ l1 ∧ i = .int .i64 k ∧ tt = .int .i64 x) (fun _ i => l1 - (intOf i).toNat)
  case atStart => exact ⟨0, _, Nat.zero_le _, rfl, rfl⟩
  case round =>
    obtain ⟨k1, x1, hk1, rfl, rfl⟩ := hrel
    by_cases hlt1 : k1 < l1
    · have hi := fun w' => h1.idx k1 w' hlt1
      have hc := h1.cell k1 hlt1
      generalize s1.getD k1 ByteArray.empty = s at hc
      clear h1 h2 h3 h4
      go_wp2
      · go_ret
        exact ⟨BoolRet.mk _, rfl⟩
      · go_ret
        exact ⟨BoolRet.mk _, rfl⟩
      · go_round
        case rel => exact ⟨k1 + 1, _, by omega, by go_num, rfl⟩
        case measure => simp [intOf]; omega
    · clear h1
      go_wp2
      · go_ret
        exact ⟨BoolRet.mk _, rfl⟩
      · go_ret
        exact ⟨BoolRet.mk _, rfl⟩
      go_loop [11, 13] (fun tt i => ∃ (k : Nat) (x : Int), k ≤ l2 ∧ i = .int .i64 k ∧ tt = .int .i64 x) (fun _ i => l2 - (intOf i).toNat)
      case atStart => exact ⟨0, _, Nat.zero_le _, rfl, rfl⟩
      case round =>
        obtain ⟨k2, x2, hk2, rfl, rfl⟩ := hrel
        by_cases hlt2 : k2 < l2
        · have hi := fun w' => h2.idx k2 w' hlt2
          have hc := h2.cell k2 hlt2
          generalize s2.getD k2 ByteArray.empty = s at hc
          clear h2 h3 h4
          go_wp2
          · go_ret
            exact ⟨BoolRet.mk _, rfl⟩
          · go_ret
            exact ⟨BoolRet.mk _, rfl⟩
          · go_round
            case rel => exact ⟨k2 + 1, _, by omega, by go_num, rfl⟩
            case measure => simp [intOf]; omega
        · clear h2
          go_wp2
          · go_ret
            exact ⟨BoolRet.mk _, rfl⟩
          · go_ret
            exact ⟨BoolRet.mk _, rfl⟩
          go_loop [11, 14] (fun tt i => ∃ (k : Nat) (x : Int), k ≤ l3 ∧ i = .int .i64 k ∧ tt = .int .i64 x) (fun _ i => l3 - (intOf i).toNat)
          case atStart => exact ⟨0, _, Nat.zero_le _, rfl, rfl⟩
          case round =>
            obtain ⟨k3, x3, hk3, rfl, rfl⟩ := hrel
            by_cases hlt3 : k3 < l3
            · have hi := fun w' => h3.idx k3 w' hlt3
              have hc := h3.cell k3 hlt3
              generalize s3.getD k3 ByteArray.empty = s at hc
              clear h3 h4
              go_wp2
              · go_ret
                exact ⟨BoolRet.mk _, rfl⟩
              · go_ret
                exact ⟨BoolRet.mk _, rfl⟩
              · go_round
                case rel => exact ⟨k3 + 1, _, by omega, by go_num, rfl⟩
                case measure => simp [intOf]; omega
            · clear h3
              go_wp2
              · go_ret
                exact ⟨BoolRet.mk _, rfl⟩
              · go_ret
                exact ⟨BoolRet.mk _, rfl⟩
              go_loop [11, 15] (fun tt i => ∃ (k : Nat) (x : Int), k ≤ l4 ∧ i = .int .i64 k ∧ tt = .int .i64 x) (fun _ i => l4 - (intOf i).toNat)
              case atStart => exact ⟨0, _, Nat.zero_le _, rfl, rfl⟩
              case round =>
                obtain ⟨k4, x4, hk4, rfl, rfl⟩ := hrel
                by_cases hlt4 : k4 < l4
                · have hi := fun w' => h4.idx k4 w' hlt4
                  have hc := h4.cell k4 hlt4
                  generalize s4.getD k4 ByteArray.empty = s at hc
                  clear h4
                  go_wp2
                  · go_ret
                    exact ⟨BoolRet.mk _, rfl⟩
                  · go_ret
                    exact ⟨BoolRet.mk _, rfl⟩
                  · go_round
                    case rel => exact ⟨k4 + 1, _, by omega, by go_num, rfl⟩
                    case measure => simp [intOf]; omega
                · clear h4
                  go_wp2
                  go_ret
                  exact ⟨BoolRet.mk _, rfl⟩

set_option maxHeartbeats 1000000 in
theorem bytes10_any (a1 a2 a3 a4 : Option Addr) (l1 l2 l3 l4 c1 c2 c3 c4 b1 b2 b3 b4 o1 o2 o3 o4 : Nat) (s1 s2 s3 s4 : List ByteArray) (wr : Bool) (w : World)
    (h1 : SL w a1 l1 c1 b1 o1 s1) (h2 : SL w a2 l2 c2 b2 o2 s2) (h3 : SL w a3 l3 c3 b3 o3 s3) (h4 : SL w a4 l4 c4 b4 o4 s4)
    (m1 : l1 ≤ maxLen) (m2 : l2 ≤ maxLen) (m3 : l3 ≤ maxLen) (m4 : l4 ≤ maxLen) :
    Calls Try.prog 10 #[.slice a1 l1 c1, .slice a2 l2 c2, .bool wr, .slice a3 l3 c3, .slice a4 l4 c4] w fun e w' => BoolRet e ∧ w' = w := by
  unfold maxLen at m1 m2 m3 m4
  go_enter Try.func10, Try.ntmps10
  go_wp2
  · go_ret
    exact ⟨BoolRet.mk _, rfl⟩
  go_loop [11, 12] (fun tt i => ∃ (k : Nat) (x : Int), k ≤ l1 ∧ i = .int .i64 k ∧ tt = .int .i64 x) (fun _ i => l1 - (intOf i).toNat)
  case atStart => exact ⟨0, _, Nat.zero_le _, rfl, rfl⟩
  case round =>
    obtain ⟨k1, x1, hk1, rfl, rfl⟩ := hrel
    by_cases hlt1 : k1 < l1
    · have hi := fun w' => h1.idx k1 w' hlt1
      have hc := h1.cell k1 hlt1
      generalize s1.getD k1 ByteArray.empty = s at hc
      clear h1 h2 h3 h4
      go_wp2
      · go_ret
        exact ⟨BoolRet.mk _, rfl⟩
      · go_ret
        exact ⟨BoolRet.mk _, rfl⟩
      · go_round
        case rel => exact ⟨k1 + 1, _, by omega, by go_num, rfl⟩
        case measure => simp [intOf]; omega
    · clear h1
      go_wp2
      · go_ret
        exact ⟨BoolRet.mk _, rfl⟩
      · go_ret
        exact ⟨BoolRet.mk _, rfl⟩
      go_loop [11, 13] (fun tt i => ∃ (k : Nat) (x : Int), k ≤ l2 ∧ i = .int .i64 k ∧ tt = .int .i64 x) (fun _ i => l2 - (intOf i).toNat)
      case atStart => exact ⟨0, _, Nat.zero_le _, rfl, rfl⟩
      case round =>
        obtain ⟨k2, x2, hk2, rfl, rfl⟩ := hrel
        by_cases hlt2 : k2 < l2
        · have hi := fun w' => h2.idx k2 w' hlt2
          have hc := h2.cell k2 hlt2
          generalize s2.getD k2 ByteArray.empty = s at hc
          clear h2 h3 h4
          go_wp2
          · go_ret
            exact ⟨BoolRet.mk _, rfl⟩
          · go_ret
            exact ⟨BoolRet.mk _, rfl⟩
          · go_round
            case rel => exact ⟨k2 + 1, _, by omega, by go_num, rfl⟩
            case measure => simp [intOf]; omega
        · clear h2
          go_wp2
          · go_ret
            exact ⟨BoolRet.mk _, rfl⟩
          · go_ret
            exact ⟨BoolRet.mk _, rfl⟩
          go_loop [11, 14] (fun tt i => ∃ (k : Nat) (x : Int), k ≤ l3 ∧ i = .int .i64 k ∧ tt = .int .i64 x) (fun _ i => l3 - (intOf i).toNat)
          case atStart => exact ⟨0, _, Nat.zero_le _, rfl, rfl⟩
          case round =>
            obtain ⟨k3, x3, hk3, rfl, rfl⟩ := hrel
            by_cases hlt3 : k3 < l3
            · have hi := fun w' => h3.idx k3 w' hlt3
              have hc := h3.cell k3 hlt3
              generalize s3.getD k3 ByteArray.empty = s at hc
              clear h3 h4
              go_wp2
              · go_ret
                exact ⟨BoolRet.mk _, rfl⟩
              · go_ret
                exact ⟨BoolRet.mk _, rfl⟩
              · go_round
                case rel => exact ⟨k3 + 1, _, by omega, by go_num, rfl⟩
                case measure => simp [intOf]; omega
            · clear h3
              go_wp2
              · go_ret
                exact ⟨BoolRet.mk _, rfl⟩
              · go_ret
                exact ⟨BoolRet.mk _, rfl⟩
              go_loop [11, 15] (fun tt i => ∃ (k : Nat) (x : Int), k ≤ l4 ∧ i = .int .i64 k ∧ tt = .int .i64 x) (fun _ i => l4 - (intOf i).toNat)
              case atStart => exact ⟨0, _, Nat.zero_le _, rfl, rfl⟩
              case round =>
                obtain ⟨k4, x4, hk4, rfl, rfl⟩ := hrel
                by_cases hlt4 : k4 < l4
                · have hi := fun w' => h4.idx k4 w' hlt4
                  have hc := h4.cell k4 hlt4
                  generalize s4.getD k4 ByteArray.empty = s at hc
                  clear h4
                  go_wp2
                  · go_ret
                    exact ⟨BoolRet.mk _, rfl⟩
                  · go_ret
                    exact ⟨BoolRet.mk _, rfl⟩
                  · go_round
                    case rel => exact ⟨k4 + 1, _, by omega, by go_num, rfl⟩
                    case measure => simp [intOf]; omega
                · clear h4
                  go_wp2
                  go_ret
                  exact ⟨BoolRet.mk _, rfl⟩

end Go.Proofs.Qxb6612378a
