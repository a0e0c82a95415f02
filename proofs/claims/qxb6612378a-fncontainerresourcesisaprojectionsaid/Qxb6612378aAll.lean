import Derived.Test.Qxb6612378aZZ
import Derived.Laws.CopyOwn
import Derived.Deep.DeepCutAuto
namespace Go.Proofs.Qxb6612378a
open Go.RowKit Go.WideMaps Go.Maps

theorem SL.nil_len {w : World} {len cap b off : Nat} {ss : List ByteArray} (h : SL w none len cap b off ss) : len = 0 := by
  rcases Nat.eq_zero_or_pos len with h0 | h0
  · exact h0
  · exact absurd (h.addr h0) (by simp)

/-- What the container's resources give at 'key'. -/
def Y (wr : Bool) (key : ByteArray) (s3 s4 : List ByteArray) (n : Nat) : Option ByteArray := if wr then Rm key s3 s4 n else none

def modelOut (yl yr : Option ByteArray) : Value := .tuple #[.string (txt yl), .bool yl.isSome, .string (txt yr), .bool yr.isSome]

theorem model_any (wr : Bool) (a1 a2 : Option Addr) (l1 l2 c1 c2 b1 b2 o1 o2 : Nat) (s1 s2 : List ByteArray) (w : World)
    (h1 : SL w a1 l1 c1 b1 o1 s1) (h2 : SL w a2 l2 c2 b2 o2 s2) (m1 : l1 ≤ 1048576) :
    Calls Try.prog 7 #[.bool wr, .slice a1 l1 c1, .slice a2 l2 c2] w fun e w' =>
      e = .returned (modelOut (Y wr lim s1 s2 (min l1 l2)) (Y wr req s1 s2 (min l1 l2))) ∧ w' = w := by
  cases wr
  · exact (model_no a1 a2 l1 l2 c1 c2 w).mono (fun _ _ h => ⟨h.1, h.2⟩)
  · exact (model_yes a1 a2 l1 l2 c1 c2 b1 b2 o1 o2 s1 s2 w h1 h2 m1).mono (fun _ _ h => ⟨h.1, h.2⟩)

theorem zz_any (wr : Bool) (a1 a2 a3 a4 : Option Addr) (l1 l2 l3 l4 c1 c2 c3 c4 b1 b2 b3 b4 o1 o2 o3 o4 : Nat) (s1 s2 s3 s4 : List ByteArray) (w : World)
    (h1 : SL w a1 l1 c1 b1 o1 s1) (h2 : SL w a2 l2 c2 b2 o2 s2) (h3 : SL w a3 l3 c3 b3 o3 s3) (h4 : SL w a4 l4 c4 b4 o4 s4)
    (m1 : l1 ≤ 1048576) (m2 : l2 ≤ 1048576) (m3 : l3 ≤ 1048576) (m4 : l4 ≤ 1048576) :
    Calls Try.prog 8 #[.slice a1 l1 c1, .slice a2 l2 c2, .bool wr, .slice a3 l3 c3, .slice a4 l4 c4] w fun e w' =>
      e = .returned (zzOut (Y wr lim s3 s4 (min l3 l4)) (Y wr req s3 s4 (min l3 l4))) ∧ Below w.heap.size w w' := by
  cases wr
  · cases a1 with
    | none => exact zz_1 l1 c1 _ _ _ w
    | some p1 => exact zz_2 p1 a2 l1 l2 c1 c2 b1 b2 o1 o2 s1 s2 _ _ w h1 h2 m1 m2
  · cases a3 with
    | none =>
      have e3 := h3.nil_len
      have e0 : min l3 l4 = 0 := by omega
      rw [e0]
      cases a1 with
      | none => exact zz_3 l1 c1 _ l3 c3 _ w
      | some p1 => exact zz_5 p1 a2 l1 l2 c1 c2 b1 b2 o1 o2 s1 s2 l3 c3 _ w h1 h2 m1 m2
    | some p3 =>
      cases a1 with
      | none => exact zz_4 l1 c1 _ p3 a4 l3 l4 c3 c4 b3 b4 o3 o4 s3 s4 w h3 h4 m3 m4
      | some p1 => exact zz_6 p1 a2 l1 l2 c1 c2 b1 b2 o1 o2 s1 s2 p3 a4 l3 l4 c3 c4 b3 b4 o3 o4 s3 s4 w h1 h2 m1 m2 h3 h4 m3 m4

theorem model_tup (wr : Bool) (a1 a2 : Option Addr) (l1 l2 c1 c2 b1 b2 o1 o2 : Nat) (s1 s2 : List ByteArray) (w : World)
    (h1 : SL w a1 l1 c1 b1 o1 s1) (h2 : SL w a2 l2 c2 b2 o2 s2) (m1 : l1 ≤ 1048576) (yl yr : Option ByteArray) (hl : yl = Y wr lim s1 s2 (min l1 l2)) (hr : yr = Y wr req s1 s2 (min l1 l2)) :
    Calls Try.prog 7 #[.bool wr, .slice a1 l1 c1, .slice a2 l2 c2] w fun e w' =>
      e = .returned (.tuple #[.string (txt yl), .bool yl.isSome, .string (txt yr), .bool yr.isSome]) ∧ w = w' := by
  subst hl hr
  exact (model_any wr a1 a2 l1 l2 c1 c2 b1 b2 o1 o2 s1 s2 w h1 h2 m1).mono (fun _ _ h => ⟨h.1, h.2.symm⟩)

theorem zz_tup (wr : Bool) (a1 a2 a3 a4 : Option Addr) (l1 l2 l3 l4 c1 c2 c3 c4 b1 b2 b3 b4 o1 o2 o3 o4 : Nat) (s1 s2 s3 s4 : List ByteArray) (w : World)
    (h1 : SL w a1 l1 c1 b1 o1 s1) (h2 : SL w a2 l2 c2 b2 o2 s2) (h3 : SL w a3 l3 c3 b3 o3 s3) (h4 : SL w a4 l4 c4 b4 o4 s4)
    (m1 : l1 ≤ 1048576) (m2 : l2 ≤ 1048576) (m3 : l3 ≤ 1048576) (m4 : l4 ≤ 1048576) (yl yr : Option ByteArray) (hl : yl = Y wr lim s3 s4 (min l3 l4)) (hr : yr = Y wr req s3 s4 (min l3 l4)) :
    Calls Try.prog 8 #[.slice a1 l1 c1, .slice a2 l2 c2, .bool wr, .slice a3 l3 c3, .slice a4 l4 c4] w fun e w' =>
      e = .returned (.tuple #[.int .i64 (cnt yl yr), .string (txt yl), .bool yl.isSome, .string (txt yr), .bool yr.isSome]) ∧ Below w.heap.size w w' := by
  subst hl hr
  exact (zz_any wr a1 a2 a3 a4 l1 l2 l3 l4 c1 c2 c3 c4 b1 b2 b3 b4 o1 o2 o3 o4 s1 s2 s3 s4 w h1 h2 h3 h4 m1 m2 m3 m4).mono (fun _ _ h => ⟨h.1, h.2⟩)

theorem cnt_call (yl yr : Option ByteArray) (w : World) : Calls Try.prog 9 #[.bool yl.isSome, .bool yr.isSome] w fun e w' => e = .returned (.int .i64 (cnt yl yr)) ∧ w = w' :=
  (count_any _ _ w).mono (fun _ _ h => ⟨h.1, h.2.symm⟩)

theorem info9 : (Try.prog.info? 9).map (fun i => (i.zero, i.size, i.bytes)) = some (some (.string ⟨#[]⟩), 1, 16) := by kernel_rfl

/-- The cells that 'make([]string, l)' lays. -/
def made (l : Nat) : List Value := (madeCells (Value.string ⟨#[]⟩).cells l).toList
theorem made_len (l : Nat) : (made l).length = l := by simp [made, madeCells]

theorem make22 (l : Nat) (h : l ≤ 65536) (w : World) : (Instr.makeSlice 22 (.int .i64 (l : Int)) (.int .i64 (l : Int))).run Try.prog w =
    .ok (.slice (some ⟨w.heap.size, 0, none⟩) l l) (w.alloc (.cells (made l).toArray 9)) := by
  obtain ⟨i0, hi, hz0, hz1, hz2⟩ := info_parts info9
  have := run_make (P := Try.prog) w 22 9 i0 _ Try.underlying22 hi hz0 .i64 .i64 l l (by omega) (by omega) (by rw [hz2]; omega) (by omega)
  rw [this]
  simp [made, hz1]

theorem SL.of_row {w : World} {g cap : Nat} {ss : List ByteArray} (hg : w.heap[g]? = some (.cells (ss.map Value.string).toArray 9 (0, 0))) (hs : ∀ s ∈ ss, s.size ≤ maxLen) :
    SL w (some ⟨g, 0, none⟩) ss.length cap g 0 ss := by
  refine ⟨rfl, fun _ => rfl, fun k hk => ?_, fun _ => (Array.getElem?_eq_some_iff.1 hg).1, hs⟩
  simp [World.cell?, hg, List.getD, hk]

theorem splice_made (ss : List ByteArray) : splice (made ss.length) 0 (ss.map Value.string) = ss.map Value.string := by
  simp [splice, made_len]

theorem one_cells (ss : List ByteArray) : ∀ v ∈ ss.map Value.string, v.oneCell' = true := by
  intro v hv
  obtain ⟨s, _, rfl⟩ := List.mem_map.1 hv
  rfl

theorem src_cells {w : World} {a : Option Addr} {len cap b off : Nat} {ss : List ByteArray} (h : SL w a len cap b off ss) (h0 : 0 < len) :
    ∃ ad, a = some ad ∧ ∀ j v, (ss.map Value.string)[j]? = some v → w.cell? (ad.add j) = some v := by
  refine ⟨_, h.addr h0, fun j v hv => ?_⟩
  rw [List.getElem?_map] at hv
  cases hj : ss[j]? with
  | none => simp [hj] at hv
  | some s =>
    simp [hj] at hv
    subst hv
    have hlt : j < len := by rw [← h.size]; exact (List.getElem?_eq_some_iff.1 hj).1
    have := h.cell j hlt
    rw [List.getD, hj] at this
    have e : (⟨b, off, none⟩ : Addr).add j = ⟨b, off + j, none⟩ := by unfold Addr.add; split <;> simp_all
    rw [e]; simpa using this

theorem size9' : (Try.prog.info? 9).map (·.size) = some 1 := by kernel_rfl

/-- 'copy(zzc, xs)' behind 'zzc := make([]string, len(xs))'. -/
theorem wpList_copy22 {W : World} {ops : Array Oper} {rest : List Oper} {o : Oper} {a : Act} {Q : Exit → Act → World → Prop} (hgd : o.guard = none) (d s : Operand)
    (ho : o.op = .call { callee := .builtin .copy, args := #[d, s], argTypes := #[22, 22] }) (a1 : Option Addr) (l1 c1 b1 o1 : Nat) (s1 : List ByteArray)
    (hd : a.eval d = .slice (some ⟨W.heap.size, 0, none⟩) l1 l1) (hs : a.eval s = .slice a1 l1 c1) (h1 : SL W a1 l1 c1 b1 o1 s1) (B : Nat) (w0 : World) (hb : Below B w0 W) (hB : B ≤ W.heap.size)
    (h : ∀ w', SL w' (some ⟨W.heap.size, 0, none⟩) l1 l1 W.heap.size 0 s1 → Below B w0 w' → Below W.heap.size W w' → wpList Try.prog ops Q rest (a.put o.dst (goInt l1)) w') :
    wpList Try.prog ops Q (o :: rest) a (W.alloc (.cells (made l1).toArray 9)) := by
  have hal : Below W.heap.size W (W.alloc (.cells (made l1).toArray 9)) := (Below.refl _ _).alloc (Nat.le_refl _) _
  have hlen : (s1.map Value.string).length = l1 := by simp [h1.size]
  refine wpList_copy_splice hgd d s 22 22 ho 9 Try.underlying22 size9' _ _ _ _ _ _ hd hs W.heap.size 0 (made l1) 9 (MapKept.heap_alloc W _).1 (s1.map Value.string) (by rw [hlen]; exact (Nat.min_self _).symm)
    (fun h0 => ⟨rfl, src_cells (h1.keep hal) (by omega)⟩) (by rw [hlen, made_len]; omega) (one_cells s1) W.heap.size W hal (Nat.le_refl _) ?_
  intro w' hg hbl
  rw [hlen]
  refine h w' ?_ (hb.trans (hbl.mono hB)) hbl
  have hg' := hg.out
  have e : splice (made l1) 0 (s1.map Value.string) = s1.map Value.string := by rw [← h1.size]; exact splice_made s1
  rw [e] at hg'
  have := SL.of_row (cap := l1) hg' h1.small
  rw [h1.size] at this
  exact this

end Go.Proofs.Qxb6612378a
