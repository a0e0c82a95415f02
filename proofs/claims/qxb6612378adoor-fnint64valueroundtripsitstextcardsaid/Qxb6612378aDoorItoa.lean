import Derived.Test.Qxb6612378aDoorProg
import Derived.WalkKit
import Derived.WalkSpells
import Derived.WalkLawsBesides
namespace Go.Proofs.Qxb6612378aDoor
open Go.RowKit

/-- The last j decimal digits of U, the highest first. -/
def Dg (U : Nat) : Nat → List UInt8
  | 0 => []
  | j + 1 => UInt8.ofNat (48 + U / 10 ^ j % 10) :: Dg U j

theorem Dg_len (U : Nat) : ∀ j, (Dg U j).length = j
  | 0 => rfl
  | j + 1 => by simp [Dg, Dg_len U j]

/-- Block B is zzItoa's buffer; from k on it holds the bytes D. -/
def Buf (wr : World) (B k : Nat) (D : List UInt8) : Prop :=
  ∃ arr : Array Value, wr.heap[B]? = some (.cells arr 36 (0, 0)) ∧ arr.size = 24 ∧ k + D.length = 24 ∧ ∀ q c, D[q]? = some c → arr[k + q]? = some (.int .u8 (c.toNat : Int))

theorem Buf.has {wr : World} {B k : Nat} {D : List UInt8} (h : Buf wr B k D) (i : Nat) (hi : i < 24) : (∃ v, wr.cell? ⟨B, i, none⟩ = some v) ∧ wr.frozen? ⟨B, i, none⟩ = false := by
  obtain ⟨arr, hb, hs, _, _⟩ := h
  have hi' : i < arr.size := by omega
  exact ⟨⟨arr[i], by simp [World.cell?, hb, hi']⟩, by simp [World.frozen?, hb]⟩

theorem Buf.lt {wr : World} {B k : Nat} {D : List UInt8} (h : Buf wr B k D) : B < wr.heap.size := by
  obtain ⟨arr, hb, _⟩ := h
  exact (Array.getElem?_eq_some_iff.1 hb).1

theorem Buf.store {wr : World} {B k : Nat} {D : List UInt8} (h : Buf wr B (k + 1) D) (c : UInt8) : Buf (wr.setCell ⟨B, k, none⟩ (.int .u8 (c.toNat : Int))) B k (c :: D) := by
  obtain ⟨arr, hb, hs, hl, hc⟩ := h
  refine ⟨arr.setIfInBounds k (.int .u8 (c.toNat : Int)), ?_, by simp [hs], by simp; omega, ?_⟩
  · simp [World.setCell, Array.getElem?_modify, hb]
  · intro q x hq
    cases q with
    | zero =>
      simp at hq
      subst hq
      have : k < arr.size := by omega
      simp [this]
    | succ q =>
      simp at hq
      have := hc q x hq
      rw [Array.getElem?_setIfInBounds, if_neg (by omega)]
      rw [show k + (q + 1) = k + 1 + q by omega]
      exact this

theorem Buf.cells {wr : World} {B k : Nat} {D : List UInt8} (h : Buf wr B k D) : ∀ j (hj : j < D.length), wr.cell? ((⟨B, k, none⟩ : Addr).add j) = some (.int .u8 (D[j].toNat : Int)) := by
  obtain ⟨arr, hb, hs, hl, hc⟩ := h
  intro j hj
  have e : (⟨B, k, none⟩ : Addr).add j = ⟨B, k + j, none⟩ := by unfold Addr.add; split <;> simp_all
  rw [e]
  have := hc j D[j] (List.getElem?_eq_getElem hj)
  simpa [World.cell?, hb] using this

/-- 'string(buf[k:])'. -/
theorem Buf.text {wr : World} {B k : Nat} {D : List UInt8} (h : Buf wr B k D) (cap len : Nat) (hlen : len = D.length) : (convert 37 9 (.slice (some ⟨B, k, none⟩) len cap)).run Tryd.prog wr = .ok (.string ⟨D.toArray⟩) wr := by
  subst hlen
  exact run_convert_bytes_back wr 37 9 5 _ cap D Tryd.underlying37 Tryd.underlying5 Tryd.underlying9 h.cells

theorem digit_val (U j : Nat) : (UInt8.ofNat (48 + U / 10 ^ j % 10)).toNat = 48 + U / 10 ^ j % 10 := by
  simp; omega

theorem pow_bound {U j : Nat} (hU : U ≤ 18446744073709551615) (h : ¬ U / 10 ^ j = 0) : j ≤ 19 := by
  rcases Nat.lt_or_ge 19 j with h1 | h1
  · exfalso
    have h2 : 10 ^ 20 ≤ 10 ^ j := Nat.pow_le_pow_right (by decide) h1
    have h3 : U < 10 ^ j := by
      have : (10 : Nat) ^ 20 = 100000000000000000000 := by decide
      omega
    exact h (Nat.div_eq_of_lt h3)
  · exact h1

theorem div_step (U j : Nat) : U / 10 ^ (j + 1) = U / 10 ^ j / 10 := by
  rw [Nat.pow_succ, Nat.div_div_eq_div_mul]

theorem len36 : Tryd.prog.arrayLen 36 = 24 := by simp [Program.arrayLen, Tryd.underlying36]
theorem elem36 : Tryd.prog.elem 36 = 5 := by simp [Program.elem, Tryd.underlying36]
theorem size5 (w : World) : (sizeOf 5).run Tryd.prog w = .ok 1 w := by kernel_rfl

theorem slice36 (B k : Nat) (hk : k < 24) (w : World) : (Instr.sliceAt 36 (.pointer (some ⟨B, 0, none⟩)) (some (.int .i64 (k : Int))) none none).run Tryd.prog w =
    .ok (.slice (some ⟨B, k, none⟩) (24 - k) (24 - k)) w := by
  have e : (⟨B, 0, none⟩ : Addr).add k = ⟨B, k, none⟩ := by unfold Addr.add; split <;> simp_all
  have := run_sliceAt_array_l (P := Tryd.prog) w 36 ⟨B, 0, none⟩ (by rw [len36, elem36]; exact Tryd.underlying36) .i64 (k : Int) (by omega) (by rw [len36]; omega)
  rw [this, len36, elem36, size5]
  have hne : ¬ 24 = k := by omega
  simp [Result.andThen, slicedAt, e, hne]

theorem stored {wr : World} {B k j U : Nat} {a : Int} (h : Buf wr B (k + 1) (Dg U j)) (ha : a = ((U / 10 ^ j : Nat) : Int)) : Buf (wr.setCell ⟨B, k, none⟩ (.int .u8 (48 + a % 10))) B k (Dg U (j + 1)) := by
  have h2 := h.store (UInt8.ofNat (48 + U / 10 ^ j % 10))
  rw [digit_val] at h2
  have e : (48 + a % 10 : Int) = ((48 + U / 10 ^ j % 10 : Nat) : Int) := by rw [ha]; omega
  rw [e]
  exact h2

theorem next_a {U j : Nat} {a : Int} (ha : a = ((U / 10 ^ j : Nat) : Int)) : a / 10 = ((U / 10 ^ (j + 1) : Nat) : Int) := by
  rw [div_step, ha]; omega

theorem is_zero {U j : Nat} {a : Int} (ha : a = ((U / 10 ^ j : Nat) : Int)) (h : (a / 10 == 0) = true) : U / 10 ^ (j + 1) = 0 := by
  have h1 := next_a ha
  have h2 := eq_of_beq h
  omega
theorem not_zero {U j : Nat} {a : Int} (hU : U ≤ 18446744073709551615) (ha : a = ((U / 10 ^ j : Nat) : Int)) (h : (a / 10 == 0) = false) : j + 1 ≤ 19 := by
  refine pow_bound hU fun e => ?_
  have h1 := next_a ha
  have h2 := ne_of_beq_false h
  omega

set_option maxHeartbeats 400000 in
theorem itoa_pos (n : Int) (U : Nat) (w : World) (h0 : 0 ≤ n) (h1 : n ≤ 9223372036854775807) (HU : Hid (n = (U : Int))) :
    Calls Tryd.prog 9 #[.int .i64 n] w fun e w' => ∃ j, e = .returned (.string ⟨(Dg U (j + 1)).toArray⟩) ∧ U / 10 ^ (j + 1) = 0 ∧ j < 20 ∧ Below w.heap.size w w' := by
  go_enter Tryd.func9, Tryd.ntmps9
  go_wp2
  go_loopw [4, 6] (fun u i wr => ∃ (k j : Nat) (a : Int), i = .int .i64 k ∧ u = .int .u64 a ∧ k + j = 24 ∧ 5 ≤ k ∧ 0 ≤ a ∧ a ≤ 18446744073709551615 ∧ Hid (a = ((U / 10 ^ j : Nat) : Int)) ∧ Buf wr w.heap.size k (Dg U j) ∧ Below w.heap.size w wr)
    (fun _ i _ => (intOf i).toNat)
  case atStart =>
    refine ⟨24, 0, n, rfl, rfl, rfl, by omega, h0, by omega, ?_, ?_, (Below.refl _ _).alloc (Nat.le_refl _) _⟩
    · have := HU.out; unfold Hid; simpa using this
    · exact ⟨_, (MapKept.heap_alloc w _).1, rfl, rfl, fun q c hq => by simp [Dg] at hq⟩
  case round =>
    obtain ⟨k, j, a, rfl, rfl, hkj, hk5, ha0, ha1, HA, hbuf, hnx⟩ := hrel
    obtain ⟨k, rfl⟩ : ∃ q, k = q + 1 := ⟨k - 1, by omega⟩
    obtain ⟨⟨v0, hcell⟩, hfr⟩ := hbuf.has k (by omega)
    have hb2 := stored hbuf HA.out
    have hn2 : Below w.heap.size w (wr.setCell ⟨w.heap.size, k, none⟩ (.int .u8 (48 + a % 10))) := hnx.setCell (Nat.le_refl _) _
    have hsl := slice36 w.heap.size k (by omega)
    have htx := hb2.text (24 - k) (24 - k) (by rw [Dg_len]; omega)
    clear hbuf hnx
    go_wp2
    · go_ret
      exact ⟨j, rfl, is_zero HA.out ‹_›, by omega, hn2⟩
    · have hj := not_zero (U := U) (by have := HU.out; omega) HA.out ‹_›
      go_roundw
      case rel => exact ⟨k, j + 1, a / 10, rfl, rfl, by omega, by omega, by omega, by omega, next_a HA.out, hb2, hn2⟩
      case measure => simp [intOf]

set_option maxHeartbeats 400000 in
theorem itoa_neg (n : Int) (U : Nat) (w : World) (h0 : n < 0) (h1 : -9223372036854775808 ≤ n) (HU : Hid (-(n + 1) + 1 = (U : Int))) :
    Calls Tryd.prog 9 #[.int .i64 n] w fun e w' => ∃ j, e = .returned (.string ⟨(45 :: Dg U (j + 1)).toArray⟩) ∧ U / 10 ^ (j + 1) = 0 ∧ j < 20 ∧ Below w.heap.size w w' := by
  go_enter Tryd.func9, Tryd.ntmps9
  go_wp2
  go_loopw [4, 6] (fun u i wr => ∃ (k j : Nat) (a : Int), i = .int .i64 k ∧ u = .int .u64 a ∧ k + j = 24 ∧ 5 ≤ k ∧ 0 ≤ a ∧ a ≤ 18446744073709551615 ∧ Hid (a = ((U / 10 ^ j : Nat) : Int)) ∧ Buf wr w.heap.size k (Dg U j) ∧ Below w.heap.size w wr)
    (fun _ i _ => (intOf i).toNat)
  case atStart =>
    refine ⟨24, 0, _, rfl, rfl, rfl, by omega, by omega, by omega, ?_, ?_, (Below.refl _ _).alloc (Nat.le_refl _) _⟩
    · have := HU.out; unfold Hid; simpa using this
    · exact ⟨_, (MapKept.heap_alloc w _).1, rfl, rfl, fun q c hq => by simp [Dg] at hq⟩
  case round =>
    obtain ⟨k, j, a, rfl, rfl, hkj, hk5, ha0, ha1, HA, hbuf, hnx⟩ := hrel
    obtain ⟨k, rfl⟩ : ∃ q, k = q + 1 + 1 := ⟨k - 2, by omega⟩
    obtain ⟨⟨v0, hcell⟩, hfr⟩ := hbuf.has (k + 1) (by omega)
    have hb2 := stored hbuf HA.out
    have hn2 : Below w.heap.size w (wr.setCell ⟨w.heap.size, k + 1, none⟩ (.int .u8 (48 + a % 10))) := hnx.setCell (Nat.le_refl _) _
    obtain ⟨⟨v1, hcell1⟩, hfr1⟩ := hb2.has k (by omega)
    have hb3 : Buf ((wr.setCell ⟨w.heap.size, k + 1, none⟩ (.int .u8 (48 + a % 10))).setCell ⟨w.heap.size, k, none⟩ (.int .u8 45)) w.heap.size k (45 :: Dg U (j + 1)) := hb2.store 45
    have hn3 : Below w.heap.size w ((wr.setCell ⟨w.heap.size, k + 1, none⟩ (.int .u8 (48 + a % 10))).setCell ⟨w.heap.size, k, none⟩ (.int .u8 45)) := hn2.setCell (Nat.le_refl _) _
    have hsl := slice36 w.heap.size k (by omega)
    have htx := hb3.text (24 - k) (24 - k) (by simp [Dg_len]; omega)
    clear hbuf hnx
    go_wp2
    · go_ret
      exact ⟨j, rfl, is_zero HA.out ‹_›, by omega, hn3⟩
    · have hj := not_zero (U := U) (by have := HU.out; omega) HA.out ‹_›
      go_roundw
      case rel => exact ⟨k + 1, j + 1, a / 10, by go_num, rfl, by omega, by omega, by omega, by omega, next_a HA.out, hb2, hn2⟩
      case measure => simp [intOf]; omega

end Go.Proofs.Qxb6612378aDoor
