import Derived.Test.Qxb6612378aDoorMaps
namespace Go.Proofs.Qxb6612378aDoor
open Go.RowKit Go.WideMaps Go.Maps

def k1 : ByteArray := ⟨#[100, 105, 115, 114, 117, 112, 116, 105, 111, 110, 115, 65, 108, 108, 111, 119, 101, 100]⟩
def k2 : ByteArray := ⟨#[99, 117, 114, 114, 101, 110, 116, 72, 101, 97, 108, 116, 104, 121]⟩
def k3 : ByteArray := ⟨#[100, 101, 115, 105, 114, 101, 100, 72, 101, 97, 108, 116, 104, 121]⟩
def k4 : ByteArray := ⟨#[101, 120, 112, 101, 99, 116, 101, 100, 80, 111, 100, 115]⟩

/-- The json.Number "0" as an 'any'. -/
def zeroN : Value := .iface 34 (.string ⟨#[48]⟩)

/-- Is the field one of the four counts? -/
def isB (f : ByteArray) : Bool := f = k1 || f = k2 || f = k3 || f = k4

/-- What newBudgetStatus' map holds. -/
def Bd : DataW Value := ((((DataW.map []).put (keyL k1) (.held zeroN)).put (keyL k2) (.held zeroN)).put (keyL k3) (.held zeroN)).put (keyL k4) (.held zeroN)

theorem keyL_ok (s : ByteArray) (h : s.size ≤ maxLen) : keyOf Tryd.prog 9 (.string s) = some (keyL s) := keyOf_string_mk Tryd.underlying9 h

theorem upd {w : World} {b n : Nat} {D : DataW Value} (h : w.ownsMap Tryd.prog 9 anyElem b n D) (hn : n < maxLen) (key : ByteArray) (v : Value) (hk : key.size ≤ maxLen) :
    ∃ w', (Instr.mapUpdate 38 (.map (some b)) (.string key) v).run Tryd.prog w = .ok () w' ∧ w'.ownsMap Tryd.prog 9 anyElem b (n + 1) (D.put (keyL key) (.held v)) ∧ w.grownBy w' (some b) :=
  h.update (t := 38) (e := 20) law9 Tryd.underlying38 hn (keyL_ok key hk) (val := v) (d := .held v) (ps := []) rfl

set_option maxHeartbeats 400000 in
theorem status_any (mv : Value) (w : World) : Calls Tryd.prog 17 #[mv] w fun e w' =>
    e = .returned (.map (some w.heap.size)) ∧ w'.ownsMap Tryd.prog 9 anyElem w.heap.size 4 Bd ∧ Below w.heap.size w w' := by
  have hmm := @run_makeMap Tryd.prog
  have b0 : Below w.heap.size w (w.alloc (.map #[] 0)) := (Below.refl _ _).alloc (Nat.le_refl _) _
  have o0 : (w.alloc (.map #[] 0)).ownsMap Tryd.prog 9 anyElem w.heap.size 0 (.map []) := World.ownsMap_made _ _ _ _
  obtain ⟨w1, r1, o1, g1⟩ := upd o0 (by decide) k1 zeroN (by decide)
  obtain ⟨w2, r2, o2, g2⟩ := upd o1 (by decide) k2 zeroN (by decide)
  obtain ⟨w3, r3, o3, g3⟩ := upd o2 (by decide) k3 zeroN (by decide)
  obtain ⟨w4, r4, o4, g4⟩ := upd o3 (by decide) k4 zeroN (by decide)
  have b1 := b0.grown g1 b0.size (fun j hj => by cases hj; exact Nat.le_refl _)
  have b2 := b1.grown g2 b1.size (fun j hj => by cases hj; exact Nat.le_refl _)
  have b3 := b2.grown g3 b2.size (fun j hj => by cases hj; exact Nat.le_refl _)
  have b4 := b3.grown g4 b3.size (fun j hj => by cases hj; exact Nat.le_refl _)
  have RO : w4.ownsMap Tryd.prog 9 anyElem w.heap.size 4 Bd := o4
  simp only [k1, k2, k3, k4, zeroN] at r1 r2 r3 r4
  clear o0 o1 o2 o3 o4 g1 g2 g3 g4 b0 b1 b2 b3
  go_enter Tryd.func17, Tryd.ntmps17
  go_wp2
  go_ret
  exact ⟨rfl, RO, b4⟩

theorem Bd_has (f : ByteArray) : Maps.has Bd (keyL f) = isB f := by
  unfold Bd isB
  by_cases h4 : f = k4
  · subst h4
    rw [has_put_same (((isMap_empty.put _ _).put _ _).put _ _) (keyL_isKey _)]; simp
  rw [has_put_other (fun e => h4 (keyL_inj e))]
  by_cases h3 : f = k3
  · subst h3
    rw [has_put_same ((isMap_empty.put _ _).put _ _) (keyL_isKey _)]; simp
  rw [has_put_other (fun e => h3 (keyL_inj e))]
  by_cases h2 : f = k2
  · subst h2
    rw [has_put_same (isMap_empty.put _ _) (keyL_isKey _)]; simp
  rw [has_put_other (fun e => h2 (keyL_inj e))]
  by_cases h1 : f = k1
  · subst h1
    rw [has_put_same isMap_empty (keyL_isKey _)]; simp
  rw [has_put_other (fun e => h1 (keyL_inj e))]
  simp [h1, h2, h3, h4, has_eq]

theorem Bd_at (f : ByteArray) : Bd.atKey (keyL f) (.held .nilIface) = .held (if isB f then zeroN else .nilIface) := by
  unfold Bd isB
  by_cases h4 : f = k4
  · subst h4
    rw [atKey_put_same (((isMap_empty.put _ _).put _ _).put _ _) (keyL_isKey _)]; simp
  rw [atKey_put_other (fun e => h4 (keyL_inj e))]
  by_cases h3 : f = k3
  · subst h3
    rw [atKey_put_same ((isMap_empty.put _ _).put _ _) (keyL_isKey _)]; simp
  rw [atKey_put_other (fun e => h3 (keyL_inj e))]
  by_cases h2 : f = k2
  · subst h2
    rw [atKey_put_same (isMap_empty.put _ _) (keyL_isKey _)]; simp
  rw [atKey_put_other (fun e => h2 (keyL_inj e))]
  by_cases h1 : f = k1
  · subst h1
    rw [atKey_put_same isMap_empty (keyL_isKey _)]; simp
  rw [atKey_put_other (fun e => h1 (keyL_inj e))]
  simp [h1, h2, h3, h4, DataW.atKey]

theorem look_f {w : World} {b : Nat} (h : w.ownsMap Tryd.prog 9 anyElem b 4 Bd) (f : ByteArray) (hk : f.size ≤ maxLen) :
    (Instr.lookup 38 (.map (some b)) (.string f) true).run Tryd.prog w = .ok (.tuple #[if isB f then zeroN else .nilIface, .bool (isB f)]) w := by
  obtain ⟨v, ps, hrun, hv⟩ := h.look_ok law9 Tryd.underlying38 (zero20 w) (zd := .held .nilIface) (zp := []) rfl (keyOf_string_mk Tryd.underlying9 hk)
  have e : DataW.held v = .held (if isB f then zeroN else .nilIface) := by
    have := congrArg (fun o => o.map Prod.fst) hv
    simp only [anyElem, Option.map_some, Option.some.injEq] at this
    rw [this]; exact Bd_at f
  cases e
  rw [hrun]
  show Result.ok (Value.tuple #[_, Value.bool (Maps.has Bd (keyL f))]) w = _
  rw [Bd_has]

theorem val0 : val [48] = 0 := by rw [val_cons 48 [] [48] false ⟨fun h => absurd h (by decide), fun h => by cases h⟩ rfl (by simp)]; rfl

/-- zzPairs, whatever it makes. -/
theorem pairs_any (a1 a2 : Option Addr) (l1 l2 c1 c2 b1 b2 o1 o2 : Nat) (s1 s2 : List ByteArray) (w : World)
    (h1 : SL w a1 l1 c1 b1 o1 s1) (h2 : SL w a2 l2 c2 b2 o2 s2) (m1 : l1 ≤ 1048576) (m2 : l2 ≤ 1048576) :
    Calls Tryd.prog 18 #[.slice a1 l1 c1, .slice a2 l2 c2] w fun e w' => (∃ v : Value, e = .returned v) ∧ Below w.heap.size w w' := by
  cases a1 with
  | none =>
    refine (pairs_nil l1 c1 _ w).mono ?_
    rintro e w' ⟨rfl, hw'⟩
    obtain rfl := hw'.symm
    exact ⟨⟨_, rfl⟩, Below.refl _ _⟩
  | some p =>
    refine (pairs_some p a2 l1 l2 c1 c2 b1 b2 o1 o2 s1 s2 w h1 h2 m1 m2).mono ?_
    rintro e w' ⟨rfl, _, hb⟩
    exact ⟨⟨_, rfl⟩, hb⟩

set_option maxHeartbeats 400000 in
theorem count_f (f : ByteArray) (a1 a2 : Option Addr) (l1 l2 c1 c2 b1 b2 o1 o2 : Nat) (s1 s2 : List ByteArray) (w : World)
    (h1 : SL w a1 l1 c1 b1 o1 s1) (h2 : SL w a2 l2 c2 b2 o2 s2) (m1 : l1 ≤ 1048576) (m2 : l2 ≤ 1048576) (hf : f.size ≤ maxLen) (hb : isB f = false) :
    Calls Tryd.prog 14 #[.slice a1 l1 c1, .slice a2 l2 c2, .string f] w fun e w' => e = .returned (.tuple #[.bool false, .bool false, .int .i64 0]) ∧ Below w.heap.size w w' := by
  have t1 := ta34_nil
  go_enter Tryd.func14, Tryd.ntmps14
  go_wp2_with fail
  refine (pairs_any _ _ _ _ _ _ _ _ _ _ _ _ _ h1 h2 m1 m2).mono ?_
  rintro e w1 ⟨⟨mv, rfl⟩, bl1⟩
  go_wp2_with fail
  refine (status_any mv w1).mono ?_
  rintro e w2 ⟨rfl, own2, bl2⟩
  have hl := look_f own2 f hf
  have bl : Below w.heap.size w w2 := bl1.trans (bl2.mono bl1.size)
  clear own2 bl1 bl2 h1 h2
  rw [hb] at hl
  simp only [Bool.false_eq_true, if_false] at hl
  clear hb
  go_wp2_with fail
  refine (value_nil w2).mono ?_
  rintro e w3 ⟨rfl, rfl⟩
  go_wp2
  go_ret3
  exact ⟨rfl, bl⟩

set_option maxHeartbeats 400000 in
theorem count_t (f : ByteArray) (a1 a2 : Option Addr) (l1 l2 c1 c2 b1 b2 o1 o2 : Nat) (s1 s2 : List ByteArray) (w : World)
    (h1 : SL w a1 l1 c1 b1 o1 s1) (h2 : SL w a2 l2 c2 b2 o2 s2) (m1 : l1 ≤ 1048576) (m2 : l2 ≤ 1048576) (hf : f.size ≤ maxLen) (hE : Errs w) (hb : isB f = true) :
    Calls Tryd.prog 14 #[.slice a1 l1 c1, .slice a2 l2 c2, .string f] w fun e w' => e = .returned (.tuple #[.bool true, .bool true, .int .i64 0]) ∧ Below w.heap.size w w' := by
  have t1 := ta34_num
  go_enter Tryd.func14, Tryd.ntmps14
  go_wp2_with fail
  refine (pairs_any _ _ _ _ _ _ _ _ _ _ _ _ _ h1 h2 m1 m2).mono ?_
  rintro e w1 ⟨⟨mv, rfl⟩, bl1⟩
  go_wp2_with fail
  refine (status_any mv w1).mono ?_
  rintro e w2 ⟨rfl, own2, bl2⟩
  have hE2 := errs_below (errs_below hE bl1 (errs_size hE)) bl2 (errs_size (errs_below hE bl1 (errs_size hE)))
  have hl := look_f own2 f hf
  have bl : Below w.heap.size w w2 := bl1.trans (bl2.mono bl1.size)
  clear own2 bl1 bl2 h1 h2 hE
  rw [hb] at hl
  simp only [if_true, zeroN] at hl
  clear hb
  go_wp2_with fail
  refine (value_num ⟨#[48]⟩ (by decide) w2 hE2).mono ?_
  rintro e w3 ⟨rfl, bl3⟩
  rw [show val (ByteArray.mk #[48]).data.toList = 0 from val0]
  go_wp2
  go_ret3
  exact ⟨rfl, bl.trans (bl3.mono bl.size)⟩

end Go.Proofs.Qxb6612378aDoor
