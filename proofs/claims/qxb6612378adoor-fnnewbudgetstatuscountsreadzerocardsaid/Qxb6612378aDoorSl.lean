import Derived.Test.Qxb6612378aDoorLaid
import Derived.Laws.CopyOwn
import Derived.Deep.DeepCutAuto
import Derived.Maps.OwnSet
namespace Go.Proofs.Qxb6612378aDoor
open Go.RowKit

/-- It returns one bool. -/
def BoolRet (e : Ending) : Prop := ∃ x : Bool, e = .returned (.bool x)
theorem BoolRet.mk (x : Bool) : BoolRet (.returned (.bool x)) := ⟨x, rfl⟩

/-- The slice '.slice a len ..' reads, in w, as the strings ss (all of one block, b, from off on). -/
structure SL (w : World) (a : Option Addr) (len _cap b off : Nat) (ss : List ByteArray) : Prop where
  size : ss.length = len
  addr : 0 < len → a = some ⟨b, off, none⟩
  cell : ∀ k, k < len → w.cell? ⟨b, off + k, none⟩ = some (.string (ss.getD k ByteArray.empty))
  old : 0 < len → b < w.heap.size
  small : ∀ s ∈ ss, s.size ≤ maxLen

theorem size9 (w : World) : (sizeOf 9).run Tryd.prog w = .ok 1 w := by kernel_rfl
theorem elem27 : Tryd.prog.elem 27 = 9 := by simp [Program.elem, Tryd.underlying27]

theorem SL.idx {w : World} {a : Option Addr} {len cap b off : Nat} {ss : List ByteArray} (h : SL w a len cap b off ss) (k : Nat) (w' : World) (hk : k < len) :
    (Instr.indexAt 27 (.slice a len cap) (.int .i64 (k : Int))).run Tryd.prog w' = .ok (.pointer (some ⟨b, off + k, none⟩)) w' := by
  rw [h.addr (by omega), run_indexAt_slice w' 27 _ len cap .i64 k (by rw [elem27]; exact Tryd.underlying27), if_pos ⟨by omega, by omega⟩, elem27, size9]
  simp [Result.andThen, Addr.add]

set_option maxHeartbeats 400000 in
theorem addBytes_any (t : Int) (a : Option Addr) (len cap b off : Nat) (ss : List ByteArray) (w : World) (h : SL w a len cap b off ss) (hm : len ≤ maxLen) :
    Calls Tryd.prog 13 #[.int .i64 t, .slice a len cap] w fun e w' => (∃ n : Int, e = .returned (.int .i64 n)) ∧ w' = w := by
  unfold maxLen at hm
  go_enter Tryd.func13, Tryd.ntmps13
  go_wp2
  go_loop [0, 5] (fun tt i => ∃ (k : Nat) (x : Int), k ≤ len ∧ i = .int .i64 k ∧ tt = .int .i64 x) (fun _ i => len - (intOf i).toNat)
  case atStart => exact ⟨0, t, Nat.zero_le _, rfl, rfl⟩
  case round =>
    obtain ⟨k, x, hk, rfl, rfl⟩ := hrel
    by_cases hlt : k < len
    · have hi := fun w' => h.idx k w' hlt
      have hc := h.cell k hlt
      generalize ss.getD k ByteArray.empty = s at hc
      clear h
      go_wp2
      · go_ret
        exact ⟨⟨_, rfl⟩, rfl⟩
      · go_round
        case rel => exact ⟨k + 1, _, by omega, by go_num, rfl⟩
        case measure => simp [intOf]; omega
      · go_ret
        exact ⟨⟨_, rfl⟩, rfl⟩
    · clear h
      go_wp2
      go_ret
      exact ⟨⟨_, rfl⟩, rfl⟩

theorem SL.keep {w w' : World} {a : Option Addr} {len cap b off : Nat} {ss : List ByteArray} (h : SL w a len cap b off ss) (hb : Below w.heap.size w w') : SL w' a len cap b off ss :=
  ⟨h.size, h.addr, fun k hk => (hb.cell (p := ⟨b, off + k, none⟩) (h.old (by omega))).trans (h.cell k hk), fun h0 => Nat.lt_of_lt_of_le (h.old h0) hb.size, h.small⟩

theorem SL.nil_len {w : World} {len cap b off : Nat} {ss : List ByteArray} (h : SL w none len cap b off ss) : len = 0 := by
  rcases Nat.eq_zero_or_pos len with h0 | h0
  · exact h0
  · exact absurd (h.addr h0) (by simp)

theorem info9 : (Tryd.prog.info? 9).map (fun i => (i.zero, i.size, i.bytes)) = some (some (.string ⟨#[]⟩), 1, 16) := by kernel_rfl

/-- The cells that 'make([]string, l)' lays. -/
def made (l : Nat) : List Value := (madeCells (Value.string ⟨#[]⟩).cells l).toList
theorem made_len (l : Nat) : (made l).length = l := by simp [made, madeCells]

theorem make27 (l : Nat) (h : l ≤ 65536) (w : World) : (Instr.makeSlice 27 (.int .i64 (l : Int)) (.int .i64 (l : Int))).run Tryd.prog w =
    .ok (.slice (some ⟨w.heap.size, 0, none⟩) l l) (w.alloc (.cells (made l).toArray 9)) := by
  obtain ⟨i0, hi, hz0, hz1, hz2⟩ := info_parts info9
  have := run_make (P := Tryd.prog) w 27 9 i0 _ Tryd.underlying27 hi hz0 .i64 .i64 l l (by omega) (by omega) (by rw [hz2]; omega) (by omega)
  rw [this]
  simp [made, hz1]

theorem SL.of_row {w : World} {g cap : Nat} {ss : List ByteArray} (hg : w.heap[g]? = some (.cells (ss.map Value.string).toArray 9 (0, 0))) (hs : ∀ s ∈ ss, s.size ≤ maxLen) :
    SL w (some ⟨g, 0, none⟩) ss.length cap g 0 ss := by
  refine ⟨rfl, fun _ => rfl, fun k hk => ?_, fun _ => (Array.getElem?_eq_some_iff.1 hg).1, hs⟩
  simp [World.cell?, hg, List.getD, hk]

theorem splice_made (ss : List ByteArray) : splice (made ss.length) 0 (ss.map Value.string) = ss.map Value.string := by
  simp [splice, made_len]

theorem one_cells (ss : List ByteArray) : ∀ v ∈ ss.map Value.string, v.oneCell' = true := by
  intro v hv
  obtain ⟨s, _, rfl⟩ := List.mem_map.1 hv
  rfl

theorem src_cells {w : World} {a : Option Addr} {len cap b off : Nat} {ss : List ByteArray} (h : SL w a len cap b off ss) (h0 : 0 < len) :
    ∃ ad, a = some ad ∧ ∀ j v, (ss.map Value.string)[j]? = some v → w.cell? (ad.add j) = some v := by
  refine ⟨_, h.addr h0, fun j v hv => ?_⟩
  rw [List.getElem?_map] at hv
  cases hj : ss[j]? with
  | none => simp [hj] at hv
  | some s =>
    simp [hj] at hv
    subst hv
    have hlt : j < len := by rw [← h.size]; exact (List.getElem?_eq_some_iff.1 hj).1
    have := h.cell j hlt
    rw [List.getD, hj] at this
    have e : (⟨b, off, none⟩ : Addr).add j = ⟨b, off + j, none⟩ := by unfold Addr.add; split <;> simp_all
    rw [e]; simpa using this

theorem size9' : (Tryd.prog.info? 9).map (·.size) = some 1 := by kernel_rfl

/-- 'copy(zzc, xs)' behind 'zzc := make([]string, len(xs))'. -/
theorem wpList_copy27 {W : World} {ops : Array Oper} {rest : List Oper} {o : Oper} {a : Act} {Q : Exit → Act → World → Prop} (hgd : o.guard = none) (d s : Operand)
    (ho : o.op = .call { callee := .builtin .copy, args := #[d, s], argTypes := #[27, 27] }) (a1 : Option Addr) (l1 c1 b1 o1 : Nat) (s1 : List ByteArray)
    (hd : a.eval d = .slice (some ⟨W.heap.size, 0, none⟩) l1 l1) (hs : a.eval s = .slice a1 l1 c1) (h1 : SL W a1 l1 c1 b1 o1 s1) (B : Nat) (w0 : World) (hb : Below B w0 W) (hB : B ≤ W.heap.size)
    (h : ∀ w', SL w' (some ⟨W.heap.size, 0, none⟩) l1 l1 W.heap.size 0 s1 → Below B w0 w' → Below W.heap.size W w' → wpList Tryd.prog ops Q rest (a.put o.dst (goInt l1)) w') :
    wpList Tryd.prog ops Q (o :: rest) a (W.alloc (.cells (made l1).toArray 9)) := by
  have hal : Below W.heap.size W (W.alloc (.cells (made l1).toArray 9)) := (Below.refl _ _).alloc (Nat.le_refl _) _
  have hlen : (s1.map Value.string).length = l1 := by simp [h1.size]
  refine wpList_copy_splice hgd d s 27 27 ho 9 Tryd.underlying27 size9' _ _ _ _ _ _ hd hs W.heap.size 0 (made l1) 9 (MapKept.heap_alloc W _).1 (s1.map Value.string) (by rw [hlen]; exact (Nat.min_self _).symm)
    (fun h0 => ⟨rfl, src_cells (h1.keep hal) (by omega)⟩) (by rw [hlen, made_len]; omega) (one_cells s1) W.heap.size W hal (Nat.le_refl _) ?_
  intro w' hg hbl
  rw [hlen]
  refine h w' ?_ (hb.trans (hbl.mono hB)) hbl
  have hg' := hg.out
  have e : splice (made l1) 0 (s1.map Value.string) = s1.map Value.string := by rw [← h1.size]; exact splice_made s1
  rw [e] at hg'
  have := SL.of_row (cap := l1) hg' h1.small
  rw [h1.size] at this
  exact this

set_option maxHeartbeats 1000000 in
theorem bytes12_any (a1 a2 : Option Addr) (l1 l2 c1 c2 b1 b2 o1 o2 : Nat) (s1 s2 : List ByteArray) (f : ByteArray) (w : World)
    (h1 : SL w a1 l1 c1 b1 o1 s1) (h2 : SL w a2 l2 c2 b2 o2 s2) (m1 : l1 ≤ maxLen) (m2 : l2 ≤ maxLen) :
    Calls Tryd.prog 12 #[.slice a1 l1 c1, .slice a2 l2 c2, .string f] w fun e w' => BoolRet e ∧ w = w' := by
  unfold maxLen at m1 m2
  go_enter Tryd.func12, Tryd.ntmps12
  go_wp2
  · go_ret
    exact ⟨BoolRet.mk _, rfl⟩
  go_loop [7, 8] (fun tt i => ∃ (k : Nat) (x : Int), k ≤ l1 ∧ i = .int .i64 k ∧ tt = .int .i64 x) (fun _ i => l1 - (intOf i).toNat)
  case atStart => exact ⟨0, _, Nat.zero_le _, rfl, rfl⟩
  case round =>
    obtain ⟨k1, x1, hk1, rfl, rfl⟩ := hrel
    by_cases hlt1 : k1 < l1
    · have hi := fun w' => h1.idx k1 w' hlt1
      have hc := h1.cell k1 hlt1
      generalize s1.getD k1 ByteArray.empty = s at hc
      clear h1 h2
      go_wp2
      · go_ret
        exact ⟨BoolRet.mk _, rfl⟩
      · go_ret
        exact ⟨BoolRet.mk _, rfl⟩
      · go_round
        case rel => exact ⟨k1 + 1, _, by omega, by go_num, rfl⟩
        case measure => simp [intOf]; omega
    · clear h1
      go_wp2
      · go_ret
        exact ⟨BoolRet.mk _, rfl⟩
      · go_ret
        exact ⟨BoolRet.mk _, rfl⟩
      go_loop [7, 9] (fun tt i => ∃ (k : Nat) (x : Int), k ≤ l2 ∧ i = .int .i64 k ∧ tt = .int .i64 x) (fun _ i => l2 - (intOf i).toNat)
      case atStart => exact ⟨0, _, Nat.zero_le _, rfl, rfl⟩
      case round =>
        obtain ⟨k2, x2, hk2, rfl, rfl⟩ := hrel
        by_cases hlt2 : k2 < l2
        · have hi := fun w' => h2.idx k2 w' hlt2
          have hc := h2.cell k2 hlt2
          generalize s2.getD k2 ByteArray.empty = s at hc
          clear h2
          go_wp2
          · go_ret
            exact ⟨BoolRet.mk _, rfl⟩
          · go_ret
            exact ⟨BoolRet.mk _, rfl⟩
          · go_round
            case rel => exact ⟨k2 + 1, _, by omega, by go_num, rfl⟩
            case measure => simp [intOf]; omega
        · clear h2
          go_wp2
          all_goals
            go_ret
            exact ⟨BoolRet.mk _, rfl⟩

end Go.Proofs.Qxb6612378aDoor
