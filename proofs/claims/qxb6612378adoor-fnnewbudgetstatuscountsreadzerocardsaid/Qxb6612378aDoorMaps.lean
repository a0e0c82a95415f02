import Derived.Test.Qxb6612378aDoorSl
namespace Go.Proofs.Qxb6612378aDoor
open Go.RowKit Go.WideMaps Go.Maps

/-- How an element of type 'any' reads: as itself. -/
def anyElem (v : Value) : Option (DataW Value × List MemPlace) := some (.held v, [])

theorem law9 : Keyed Tryd.prog 9 := string_keyed Tryd.underlying9
theorem zero20 (w : World) : (zeroValue 20).run Tryd.prog w = .ok .nilIface w := by kernel_rfl

def keyL (s : ByteArray) : Lit := .string s.data.toList

/-- What zzPairs' map holds after k rounds. -/
def Pd (ks vs : List ByteArray) : Nat → DataW Value
  | 0 => .map []
  | k + 1 => (Pd ks vs k).put (keyL (ks.getD k ByteArray.empty)) (.held (.iface 9 (.string (vs.getD k ByteArray.empty))))

theorem key_ok {ss : List ByteArray} (hsz : ∀ s ∈ ss, s.size ≤ maxLen) (k : Nat) : (ss.getD k ByteArray.empty).size ≤ maxLen := by
  by_cases hk : k < ss.length
  · rw [List.getD, List.getElem?_eq_getElem hk]
    exact hsz _ (List.getElem_mem hk)
  · rw [List.getD, List.getElem?_eq_none (by omega)]
    exact Nat.zero_le _

theorem pairs_nil (l1 c1 : Nat) (v2 : Value) (w : World) :
    Calls Tryd.prog 18 #[.slice none l1 c1, v2] w fun e w' => e = .returned (.map none) ∧ w' = w := by
  have q1 := fun (w : World) (a : Option Addr) (n c : Nat) => Lib.run_eql_slice_nil (P := Tryd.prog) w 27 9 a n c 0 0 Tryd.underlying27
  go_enter Tryd.func18, Tryd.ntmps18
  go_wp2
  go_ret
  exact ⟨rfl, rfl⟩

set_option maxHeartbeats 400000 in
theorem pairs_some (p : Addr) (a2 : Option Addr) (l1 l2 c1 c2 b1 b2 o1 o2 : Nat) (s1 s2 : List ByteArray) (w : World)
    (h1 : SL w (some p) l1 c1 b1 o1 s1) (h2 : SL w a2 l2 c2 b2 o2 s2) (m1 : l1 ≤ 1048576) (m2 : l2 ≤ 1048576) :
    Calls Tryd.prog 18 #[.slice (some p) l1 c1, .slice a2 l2 c2] w fun e w' => e = .returned (.map (some w.heap.size)) ∧ w'.ownsMap Tryd.prog 9 anyElem w.heap.size (min l1 l2) (Pd s1 s2 (min l1 l2)) ∧ Below w.heap.size w w' := by
  have q1 := fun (w : World) (a : Option Addr) (n c : Nat) => Lib.run_eql_slice_nil (P := Tryd.prog) w 27 9 a n c 0 0 Tryd.underlying27
  have hmm := @run_makeMap Tryd.prog
  go_enter Tryd.func18, Tryd.ntmps18
  go_wp2
  go_loopw [6] (fun i wr => ∃ k : Nat, k ≤ min l1 l2 ∧ i = .int .i64 k ∧ wr.ownsMap Tryd.prog 9 anyElem w.heap.size k (Pd s1 s2 k) ∧ Below w.heap.size w wr)
    (fun i _ => min l1 l2 - (intOf i).toNat)
  case atStart => exact ⟨0, Nat.zero_le _, rfl, World.ownsMap_made _ _ _ _, (Below.refl _ _).alloc (Nat.le_refl _) _⟩
  case round =>
    obtain ⟨k, hk, rfl, hown, hnx⟩ := hrel
    clear q1 hmm
    by_cases hlt1 : k < l1
    · by_cases hlt2 : k < l2
      · have hi1 := fun w' => h1.idx k w' hlt1
        have hi2 := fun w' => h2.idx k w' hlt2
        have hc1 := (hnx.cell (p := ⟨b1, o1 + k, none⟩) (h1.old (by omega))).trans (h1.cell k hlt1)
        have hc2 := (hnx.cell (p := ⟨b2, o2 + k, none⟩) (h2.old (by omega))).trans (h2.cell k hlt2)
        have hkey := keyOf_string_mk Tryd.underlying9 (key_ok h1.small k)
        have hstep : Hid (Pd s1 s2 (k + 1) = (Pd s1 s2 k).put (keyL (s1.getD k ByteArray.empty)) (.held (.iface 9 (.string (s2.getD k ByteArray.empty))))) := rfl
        generalize s1.getD k ByteArray.empty = u1 at hc1 hkey hstep
        generalize s2.getD k ByteArray.empty = u2 at hc2 hstep
        obtain ⟨w1, hrun, hown1, hturn⟩ := hown.drew.store (t := 38) (e := 20) law9 Tryd.underlying38 (by unfold maxLen; omega) hkey (val := .iface 9 (.string u2)) (d := .held (.iface 9 (.string u2))) (ps := []) rfl
        have R1 : w1.ownsMap Tryd.prog 9 anyElem w.heap.size (k + 1) (Pd s1 s2 (k + 1)) := by rw [hstep.out]; exact hown1
        have R2 := hnx.drew.grown hturn.grown hnx.size (fun j hj => by cases hj; exact Nat.le_refl _)
        clear h1 h2 hown hown1 hturn hstep hkey
        go_wp2
        go_region
        all_goals
          go_wp2
          go_roundw
          case rel => exact ⟨k + 1, by omega, by go_num, R1, R2⟩
          case measure => simp [intOf]; omega
      · have hmin : min l1 l2 = k := by omega
        have hown' : wr.ownsMap Tryd.prog 9 anyElem w.heap.size (min l1 l2) (Pd s1 s2 (min l1 l2)) := by rw [hmin]; exact hown
        clear h1 h2 hmin hown
        go_wp2
        go_ret
        exact ⟨rfl, hown', hnx⟩
    · have hmin : min l1 l2 = k := by omega
      have hown' : wr.ownsMap Tryd.prog 9 anyElem w.heap.size (min l1 l2) (Pd s1 s2 (min l1 l2)) := by rw [hmin]; exact hown
      clear h1 h2 hmin hown
      go_wp2
      go_ret
      exact ⟨rfl, hown', hnx⟩

theorem keyL_inj {a b : ByteArray} (h : keyL a = keyL b) : a = b := by
  simp only [keyL, Lit.string.injEq] at h
  exact ByteArray.ext (Array.toList_inj.1 h)

theorem keyL_isKey (s : ByteArray) : WideAt.IsKeyLit (keyL s) := by
  unfold keyL; trivial

end Go.Proofs.Qxb6612378aDoor
