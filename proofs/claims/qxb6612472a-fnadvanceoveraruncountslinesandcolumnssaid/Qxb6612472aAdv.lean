import Derived.Test.Qxb6612472aRows
import Derived.WalkKit
import Derived.WalkSpells
import Derived.WalkLawsBesides
import Derived.Deep.QuietTactic
import Derived.BigQuiet
namespace Go.Proofs.Qxb6612472a
open Go.RowKit

def rl (r : Int) : Int := if r < 128 then 1 else if r < 2048 then 2 else if r < 65536 then 3 else 4

theorem runelen_any (r : Int) (w : World) : Calls Try.prog 9 #[.int .i32 r] w fun e w' => e = .returned (.int .i64 (rl r)) ∧ w = w' := by
  unfold rl
  by_cases h1 : r < 128
  · rw [if_pos h1]
    go_enter Try.func9, Try.ntmps9
    go_wp2
    go_ret
    exact ⟨rfl, rfl⟩
  rw [if_neg h1]
  by_cases h2 : r < 2048
  · rw [if_pos h2]
    go_enter Try.func9, Try.ntmps9
    go_wp2
    go_ret
    exact ⟨rfl, rfl⟩
  rw [if_neg h2]
  by_cases h3 : r < 65536
  · rw [if_pos h3]
    go_enter Try.func9, Try.ntmps9
    go_wp2
    go_ret
    exact ⟨rfl, rfl⟩
  rw [if_neg h3]
  go_enter Try.func9, Try.ntmps9
  go_wp2
  go_ret
  exact ⟨rfl, rfl⟩

theorem below_drewN {B : Nat} {a w : World} (h : Below B a w) (n : Nat) : Below B a (w.drewN n) := ⟨h.os, h.tape, h.output, h.size, h.block⟩

set_option maxHeartbeats 400000 in
theorem adv_crlf (o l c sz : Int) (w : World) :
    Calls Try.prog 8 #[.int .i64 o, .int .i64 l, .int .i64 c, .bool true, .int .i32 10, .int .i64 sz] w fun e w' =>
      e = .returned (.tuple #[.int .i64 (wrap64 (o + sz)), .int .i64 l, .int .i64 c, .bool false]) ∧ Below w.heap.size w w' := by
  go_enter Try.func8, Try.ntmps8
  go_wp2
  go_end0
  go_wp2
  go_quiet (fail)
  go_wp2
  refine bodyPost_ret (v := .tuple #[.int .i64 (wrap64 (o + sz)), .int .i64 l, .int .i64 c, .bool false]) (by simp [results, Try.results8, go_sem]) rfl ⟨rfl, ?_⟩
  exact below_drewN ((Below.refl _ _).alloc (Nat.le_refl _) _) _

set_option maxHeartbeats 400000 in
theorem adv_lf (o l c sz : Int) (w : World) :
    Calls Try.prog 8 #[.int .i64 o, .int .i64 l, .int .i64 c, .bool false, .int .i32 10, .int .i64 sz] w fun e w' =>
      e = .returned (.tuple #[.int .i64 (wrap64 (o + sz)), .int .i64 (wrap64 (l + 1)), .int .i64 1, .bool false]) ∧ Below w.heap.size w w' := by
  go_enter Try.func8, Try.ntmps8
  go_wp2
  go_end0
  go_wp2
  go_quiet (fail)
  go_wp2
  refine bodyPost_ret (v := .tuple #[.int .i64 (wrap64 (o + sz)), .int .i64 (wrap64 (l + 1)), .int .i64 1, .bool false]) (by simp [results, Try.results8, go_sem]) rfl ⟨rfl, ?_⟩
  exact below_drewN ((Below.refl _ _).alloc (Nat.le_refl _) _) _

set_option maxHeartbeats 400000 in
theorem adv_cr (o l c sz : Int) (k : Bool) (w : World) :
    Calls Try.prog 8 #[.int .i64 o, .int .i64 l, .int .i64 c, .bool k, .int .i32 13, .int .i64 sz] w fun e w' =>
      e = .returned (.tuple #[.int .i64 (wrap64 (o + sz)), .int .i64 (wrap64 (l + 1)), .int .i64 1, .bool true]) ∧ Below w.heap.size w w' := by
  go_enter Try.func8, Try.ntmps8
  go_wp2
  go_end0
  go_wp2
  go_quiet (fail)
  go_wp2
  refine bodyPost_ret (v := .tuple #[.int .i64 (wrap64 (o + sz)), .int .i64 (wrap64 (l + 1)), .int .i64 1, .bool true]) (by simp [results, Try.results8, go_sem]) rfl ⟨rfl, ?_⟩
  exact below_drewN ((Below.refl _ _).alloc (Nat.le_refl _) _) _

set_option maxHeartbeats 400000 in
theorem adv_other (o l c sz : Int) (k : Bool) (r : Int) (h10 : (r == 10) = false) (h13 : (r == 13) = false) (w : World) :
    Calls Try.prog 8 #[.int .i64 o, .int .i64 l, .int .i64 c, .bool k, .int .i32 r, .int .i64 sz] w fun e w' =>
      e = .returned (.tuple #[.int .i64 (wrap64 (o + sz)), .int .i64 l, .int .i64 (wrap64 (c + 1)), .bool false]) ∧ Below w.heap.size w w' := by
  go_enter Try.func8, Try.ntmps8
  go_wp2
  go_end0
  go_wp2
  go_quiet (fail)
  go_wp2
  refine bodyPost_ret (v := .tuple #[.int .i64 (wrap64 (o + sz)), .int .i64 l, .int .i64 (wrap64 (c + 1)), .bool false]) (by simp [results, Try.results8, go_sem]) rfl ⟨rfl, ?_⟩
  exact below_drewN ((Below.refl _ _).alloc (Nat.le_refl _) _) _

end Go.Proofs.Qxb6612472a
