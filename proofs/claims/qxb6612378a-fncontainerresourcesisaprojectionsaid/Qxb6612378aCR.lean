import Derived.Test.Qxb6612378aModel
namespace Go.Proofs.Qxb6612378a
open Go.RowKit Go.WideMaps Go.Maps

/-- An 'any' that holds a string, or nothing. -/
def ifc : Option ByteArray → Value
  | some v => .iface 9 (.string v)
  | none => .nilIface

def putO (D : DataW Value) (key : ByteArray) (y : Option ByteArray) : DataW Value :=
  match y with
  | some v => D.put (keyL key) (.held (.iface 9 (.string v)))
  | none => D

/-- What ContainerResources' own map holds. -/
def Gd (yl yr : Option ByteArray) : DataW Value := putO (putO (.map []) lim yl) req yr

/-- 'm[key]' (with ok) gives y. -/
def Lk (w : World) (ro : Option Nat) (key : ByteArray) (y : Option ByteArray) : Prop :=
  (Instr.lookup 30 (.map ro) (.string key) true).run Try.prog w = .ok (.tuple #[ifc y, .bool y.isSome]) w

theorem lk_nil (w : World) (key : ByteArray) (hk : key.size ≤ maxLen) : Lk w none key none :=
  Maps.look_nil (P := Try.prog) (k := 9) true law9 Try.underlying30 (zero20 w) (keyOf_string_mk Try.underlying9 hk)

theorem lk_own {w : World} {b n : Nat} {D : DataW Value} (h : w.ownsMap Try.prog 9 anyElem b n D) (key : ByteArray) (hk : key.size ≤ maxLen) (y : Option ByteArray)
    (hat : D.atKey (keyL key) (.held .nilIface) = .held (ifc y)) (hh : Maps.has D (keyL key) = y.isSome) : Lk w (some b) key y := by
  obtain ⟨v, ps, hrun, hv⟩ := h.look_ok law9 Try.underlying30 (zero20 w) (zd := .held .nilIface) (zp := []) rfl (keyOf_string_mk Try.underlying9 hk)
  have e : DataW.held v = .held (ifc y) := by
    have := congrArg (fun o => o.map Prod.fst) hv
    simp only [anyElem, Option.map_some, Option.some.injEq] at this
    rw [this]; exact hat
  cases e
  unfold Lk
  rw [hrun]
  show Result.ok (Value.tuple #[ifc y, Value.bool (Maps.has D (keyL key))]) w = _
  rw [hh]

theorem keyL_ok (s : ByteArray) (h : s.size ≤ maxLen) : keyOf Try.prog 9 (.string s) = some (keyL s) := keyOf_string_mk Try.underlying9 h

theorem idx0 (w : World) : (Instr.index 36 (.agg #[.string ⟨#[108, 105, 109, 105, 116, 115]⟩, .string ⟨#[114, 101, 113, 117, 101, 115, 116, 115]⟩]) (.int .i64 0)).run Try.prog w = .ok (.string ⟨#[108, 105, 109, 105, 116, 115]⟩) w := by kernel_rfl
theorem idx1 (w : World) : (Instr.index 36 (.agg #[.string ⟨#[108, 105, 109, 105, 116, 115]⟩, .string ⟨#[114, 101, 113, 117, 101, 115, 116, 115]⟩]) (.int .i64 1)).run Try.prog w = .ok (.string ⟨#[114, 101, 113, 117, 101, 115, 116, 115]⟩) w := by kernel_rfl

theorem upd {w : World} {b n : Nat} {D : DataW Value} (h : w.ownsMap Try.prog 9 anyElem b n D) (hn : n < maxLen) (key v : ByteArray) (hk : key.size ≤ maxLen) :
    ∃ w', (Instr.mapUpdate 30 (.map (some b)) (.string key) (.iface 9 (.string v))).run Try.prog w = .ok () w' ∧ w'.ownsMap Try.prog 9 anyElem b (n + 1) (putO D key (some v)) ∧ w.grownBy w' (some b) :=
  h.update (t := 30) (e := 20) law9 Try.underlying30 hn (keyL_ok key hk) (val := .iface 9 (.string v)) (d := .held (.iface 9 (.string v))) (ps := []) rfl

set_option maxHeartbeats 400000 in
theorem cr_any (cv v : Value) (ro : Option Nat) (ok : Bool) (yl yr : Option ByteArray) (w : World)
    (hc : (Instr.lookup 30 cv (.string ⟨#[114, 101, 115, 111, 117, 114, 99, 101, 115]⟩) false).run Try.prog w = .ok v w)
    (hta : ∀ w : World, (Instr.typeAssert v 20 30 true).run Try.prog w = .ok (.tuple #[.map ro, .bool ok]) w)
    (hl : ∀ w', Below w.heap.size w w' → Lk w' ro lim yl) (hr : ∀ w', Below w.heap.size w w' → Lk w' ro req yr) :
    Calls Try.prog 12 #[cv] w fun e w' => e = .returned (.map (some w.heap.size)) ∧ w'.ownsMap Try.prog 9 anyElem w.heap.size 2 (Gd yl yr) ∧ Below w.heap.size w w' := by
  have hmm := @run_makeMap Try.prog
  have b0 : Below w.heap.size w (w.alloc (.map #[] 0)) := (Below.refl _ _).alloc (Nat.le_refl _) _
  have o0 : (w.alloc (.map #[] 0)).ownsMap Try.prog 9 anyElem w.heap.size 0 (.map []) := World.ownsMap_made _ _ _ _
  have hl0 := hl _ b0
  have i0 := idx0
  have i1 := idx1
  have hz : w.heap.size ≤ (w.alloc (.map #[] 0)).heap.size := by simp
  cases yl with
  | none =>
    have hr0 := hr _ b0
    cases yr with
    | none =>
      have RO := o0.mono (n' := 2) (by omega)
      simp only [Lk, lim, req, ifc, Option.isSome] at hl0 hr0
      clear hl hr o0 hz
      go_enter Try.func12, Try.ntmps12
      go_wp2
      refine wp_loop_rounds 3 ?_
      rw [rounds_succ]
      go_wp2
      rw [rounds_succ]
      go_wp2
      rw [rounds_succ]
      go_wp2
      go_ret
      exact ⟨rfl, RO, b0⟩
    | some vr =>
      obtain ⟨w2, hrun2, own2, g2⟩ := upd o0 (by decide) req vr (by decide)
      have RO : w2.ownsMap Try.prog 9 anyElem w.heap.size 2 (Gd none (some vr)) := own2.mono (n' := 2) (by omega)
      have b2 := b0.grown g2 hz (fun j hj => by cases hj; exact Nat.le_refl _)
      simp only [Lk, lim, req, ifc, Option.isSome] at hl0 hr0 hrun2
      clear hl hr o0 hz own2 g2 b0
      go_enter Try.func12, Try.ntmps12
      go_wp2
      refine wp_loop_rounds 3 ?_
      rw [rounds_succ]
      go_wp2
      rw [rounds_succ]
      go_wp2
      rw [rounds_succ]
      go_wp2
      go_ret
      exact ⟨rfl, RO, b2⟩
  | some vl =>
    obtain ⟨w1, hrun1, own1, g1⟩ := upd o0 (by decide) lim vl (by decide)
    have b1 := b0.grown g1 hz (fun j hj => by cases hj; exact Nat.le_refl _)
    have hr1 := hr _ b1
    cases yr with
    | none =>
      have RO : w1.ownsMap Try.prog 9 anyElem w.heap.size 2 (Gd (some vl) none) := own1.mono (n' := 2) (by omega)
      simp only [Lk, lim, req, ifc, Option.isSome] at hl0 hr1 hrun1
      clear hl hr o0 hz own1 g1 b0
      go_enter Try.func12, Try.ntmps12
      go_wp2
      refine wp_loop_rounds 3 ?_
      rw [rounds_succ]
      go_wp2
      rw [rounds_succ]
      go_wp2
      rw [rounds_succ]
      go_wp2
      go_ret
      exact ⟨rfl, RO, b1⟩
    | some vr =>
      obtain ⟨w2, hrun2, own2, g2⟩ := upd own1 (by decide) req vr (by decide)
      have RO : w2.ownsMap Try.prog 9 anyElem w.heap.size 2 (Gd (some vl) (some vr)) := own2
      have b2 := b1.grown g2 (b1.size) (fun j hj => by cases hj; exact Nat.le_refl _)
      simp only [Lk, lim, req, ifc, Option.isSome] at hl0 hr1 hrun1 hrun2
      clear hl hr o0 hz own1 own2 g1 g2 b0 b1
      go_enter Try.func12, Try.ntmps12
      go_wp2
      refine wp_loop_rounds 3 ?_
      rw [rounds_succ]
      go_wp2
      rw [rounds_succ]
      go_wp2
      rw [rounds_succ]
      go_wp2
      go_ret
      exact ⟨rfl, RO, b2⟩

end Go.Proofs.Qxb6612378a
