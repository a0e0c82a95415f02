import Derived.Test.Qxb6612472aAdv
namespace Go.Proofs.Qxb6612472a
open Go.RowKit

/-! The plain law: no Go in sight. -/
def aL (k : Bool) (r l : Int) : Int := if r = 10 ∧ k = true then l else if r = 10 ∨ r = 13 then wrap64 (l + 1) else l
def aC (k : Bool) (r c : Int) : Int := if r = 10 ∧ k = true then c else if r = 10 ∨ r = 13 then 1 else wrap64 (c + 1)

def Of (z : Nat → Int) (off : Int) : Nat → Int
  | 0 => off
  | i + 1 => wrap64 (Of z off i + rl (z i))
def Kf (z : Nat → Int) (cr : Bool) : Nat → Bool
  | 0 => cr
  | i + 1 => z i == 13
def Lf (z : Nat → Int) (cr : Bool) (line : Int) : Nat → Int
  | 0 => line
  | i + 1 => aL (Kf z cr i) (z i) (Lf z cr line i)
def Cf (z : Nat → Int) (cr : Bool) (col : Int) : Nat → Int
  | 0 => col
  | i + 1 => aC (Kf z cr i) (z i) (Cf z cr col i)
def En (z : Nat → Int) (cr : Bool) : Nat → Int
  | 0 => 0
  | i + 1 => if z i = 13 ∨ (z i = 10 ∧ Kf z cr i = false) then En z cr i + 1 else En z cr i
def La (z : Nat → Int) : Nat → Int
  | 0 => -1
  | i + 1 => if z i = 13 ∨ z i = 10 then (i : Int) else La z i

theorem wrap_add (x y : Int) : wrap64 (wrap64 x + y) = wrap64 (x + y) := by unfold wrap64; omega
theorem wrap_id {x : Int} (h0 : -9223372036854775808 ≤ x) (h1 : x ≤ 9223372036854775807) : wrap64 x = x := by unfold wrap64; omega

theorem En_bd (z : Nat → Int) (cr : Bool) : ∀ i, 0 ≤ En z cr i ∧ En z cr i ≤ i
  | 0 => by simp [En]
  | i + 1 => by
    have := En_bd z cr i
    unfold En
    split <;> omega
theorem La_bd (z : Nat → Int) : ∀ i, -1 ≤ La z i ∧ La z i < i
  | 0 => by simp [La]
  | i + 1 => by
    have := La_bd z i
    unfold La
    split <;> omega

theorem Lf_eq (z : Nat → Int) (cr : Bool) (line : Int) (h0 : -9223372036854775808 ≤ line) (h1 : line ≤ 9223372036854775807) : ∀ i, Lf z cr line i = wrap64 (line + En z cr i)
  | 0 => by unfold Lf En; rw [Int.add_zero, wrap_id h0 h1]
  | i + 1 => by
    have ih := Lf_eq z cr line h0 h1 i
    unfold Lf En aL
    by_cases h13 : z i = 13
    · rw [if_neg (by omega), if_pos (.inr h13), if_pos (.inl h13), ih, wrap_add]; congr 1; omega
    · by_cases h10 : z i = 10
      · cases hk : Kf z cr i
        · rw [if_neg (by simp), if_pos (.inl h10), if_pos (.inr ⟨h10, rfl⟩), ih, wrap_add]; congr 1; omega
        · rw [if_pos ⟨h10, rfl⟩, if_neg (by simp [h13]), ih]
      · rw [if_neg (fun h => h10 h.1), if_neg (by omega), if_neg (by omega), ih]

theorem La_t (z : Nat → Int) (i : Nat) (h : z i = 13 ∨ z i = 10) : La z (i + 1) = (i : Int) := if_pos h
theorem La_f (z : Nat → Int) (i : Nat) (h : ¬ (z i = 13 ∨ z i = 10)) : La z (i + 1) = La z i := if_neg h
theorem Cf_1 (z : Nat → Int) (cr : Bool) (col : Int) (i : Nat) (h1 : z i = 10) (h2 : Kf z cr i = true) : Cf z cr col (i + 1) = Cf z cr col i := if_pos ⟨h1, h2⟩
theorem Cf_2 (z : Nat → Int) (cr : Bool) (col : Int) (i : Nat) (h1 : ¬ (z i = 10 ∧ Kf z cr i = true)) (h2 : z i = 10 ∨ z i = 13) : Cf z cr col (i + 1) = 1 := (if_neg h1).trans (if_pos h2)
theorem Cf_3 (z : Nat → Int) (cr : Bool) (col : Int) (i : Nat) (h : ¬ (z i = 10 ∨ z i = 13)) : Cf z cr col (i + 1) = wrap64 (Cf z cr col i + 1) := (if_neg (fun e => h (.inl e.1))).trans (if_neg h)

theorem Cf_eq (z : Nat → Int) (cr : Bool) (col : Int) (h0 : -9223372036854775808 ≤ col) (h1 : col ≤ 9223372036854775807) (hcr : cr = true → col = 1) : ∀ i, i ≤ 65536 → Cf z cr col i = if 0 ≤ La z i then (i : Int) - La z i else wrap64 (col + i)
  | 0, _ => by
    have e : La z 0 = -1 := rfl
    rw [e, if_neg (by omega)]
    show col = _
    rw [wrap_id (by omega) (by omega)]; simp
  | i + 1, hi => by
    have ih := Cf_eq z cr col h0 h1 hcr i (by omega)
    have hb := La_bd z i
    by_cases he : z i = 10 ∨ z i = 13
    · rw [La_t z i (by omega), if_pos (by omega)]
      by_cases hk : z i = 10 ∧ Kf z cr i = true
      · rw [Cf_1 z cr col i hk.1 hk.2]
        cases i with
        | zero =>
          have e1 := hcr hk.2
          show col = _
          omega
        | succ j =>
          have h : z j = 13 := by
            have : (z j == 13) = true := hk.2
            simpa using this
          rw [ih, La_t z j (.inl h), if_pos (by omega)]; omega
      · rw [Cf_2 z cr col i hk he]; omega
    · rw [La_f z i (by omega), Cf_3 z cr col i he, ih]
      by_cases hl : 0 ≤ La z i
      · rw [if_pos hl, if_pos hl, wrap_id (by omega) (by omega)]; omega
      · rw [if_neg hl, if_neg hl, wrap_add]; congr 1; omega

theorem adv_any (o l c sz r : Int) (k : Bool) (w : World) :
    Calls Try.prog 8 #[.int .i64 o, .int .i64 l, .int .i64 c, .bool k, .int .i32 r, .int .i64 sz] w fun e w' =>
      e = .returned (.tuple #[.int .i64 (wrap64 (o + sz)), .int .i64 (aL k r l), .int .i64 (aC k r c), .bool (r == 13)]) ∧ Below w.heap.size w w' := by
  by_cases h13 : r = 13
  · subst h13
    have n1 : ¬ ((13 : Int) = 10 ∧ k = true) := fun h => absurd h.1 (by decide)
    have eL : aL k 13 l = wrap64 (l + 1) := (if_neg n1).trans (if_pos (.inr rfl))
    have eC : aC k 13 c = 1 := (if_neg n1).trans (if_pos (.inr rfl))
    rw [eL, eC]
    exact adv_cr o l c sz k w
  · have b13 : (r == 13) = false := beq_eq_false_iff_ne.2 h13
    rw [b13]
    by_cases h10 : r = 10
    · subst h10
      cases k
      · have eL : aL false 10 l = wrap64 (l + 1) := rfl
        have eC : aC false 10 c = 1 := rfl
        rw [eL, eC]
        exact adv_lf o l c sz w
      · have eL : aL true 10 l = l := rfl
        have eC : aC true 10 c = c := rfl
        rw [eL, eC]
        exact adv_crlf o l c sz w
    · have n1 : ¬ (r = 10 ∧ k = true) := fun h => h10 h.1
      have n2 : ¬ (r = 10 ∨ r = 13) := by omega
      have eL : aL k r l = l := (if_neg n1).trans (if_neg n2)
      have eC : aC k r c = wrap64 (c + 1) := (if_neg n1).trans (if_neg n2)
      rw [eL, eC]
      exact adv_other o l c sz k r (beq_eq_false_iff_ne.2 h10) b13 w

/-- The slice '.slice a len ..' reads, in w, as the runes z 0, z 1, .. (all of one block, b, from off on). -/
structure RL (w : World) (a : Option Addr) (len _cap b off : Nat) (z : Nat → Int) : Prop where
  addr : 0 < len → a = some ⟨b, off, none⟩
  cell : ∀ k, k < len → w.cell? ⟨b, off + k, none⟩ = some (.int .i32 (z k))
  old : 0 < len → b < w.heap.size

theorem size21 (w : World) : (sizeOf 21).run Try.prog w = .ok 1 w := by kernel_rfl
theorem elem23 : Try.prog.elem 23 = 21 := by simp [Program.elem, Try.underlying23]

theorem RL.idx {w : World} {a : Option Addr} {len cap b off : Nat} {z : Nat → Int} (h : RL w a len cap b off z) (k : Nat) (w' : World) (hk : k < len) :
    (Instr.indexAt 23 (.slice a len cap) (.int .i64 (k : Int))).run Try.prog w' = .ok (.pointer (some ⟨b, off + k, none⟩)) w' := by
  rw [h.addr (by omega), run_indexAt_slice w' 23 _ len cap .i64 k (by rw [elem23]; exact Try.underlying23), if_pos ⟨by omega, by omega⟩, elem23, size21]
  simp [Result.andThen, Addr.add]

theorem RL.keep {w w' : World} {a : Option Addr} {len cap b off : Nat} {z : Nat → Int} (h : RL w a len cap b off z) (hb : Below w.heap.size w w') : RL w' a len cap b off z :=
  ⟨h.addr, fun k hk => (hb.cell (p := ⟨b, off + k, none⟩) (h.old (by omega))).trans (h.cell k hk), fun h0 => Nat.lt_of_lt_of_le (h.old h0) hb.size⟩

/-- It returns one bool. -/
def BoolRet (e : Ending) : Prop := ∃ x : Bool, e = .returned (.bool x)
theorem BoolRet.mk (x : Bool) : BoolRet (.returned (.bool x)) := ⟨x, rfl⟩

theorem bytes7_any (o l c : Int) (k : Bool) (a : Option Addr) (len cap : Nat) (w : World) (hm : len ≤ maxLen) :
    Calls Try.prog 7 #[.int .i64 o, .int .i64 l, .int .i64 c, .bool k, .slice a len cap] w fun e w' => BoolRet e ∧ w = w' := by
  unfold maxLen at hm
  go_enter Try.func7, Try.ntmps7
  go_wp2
  all_goals
    go_ret
    exact ⟨BoolRet.mk _, rfl⟩

end Go.Proofs.Qxb6612472a
