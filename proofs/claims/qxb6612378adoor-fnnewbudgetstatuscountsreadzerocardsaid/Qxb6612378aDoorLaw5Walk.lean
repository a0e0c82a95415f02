import Derived.Test.Qxb6612378aDoorBudget
namespace Go.Proofs.Qxb6612378aDoor
open Go.RowKit Go.WideMaps Go.Maps

theorem beq_key (f k : ByteArray) (l : List UInt8) (hk : k.data.toList = l) : (f.toList == l) = decide (f = k) := by
  rw [ByteArray.toList_eq, ← hk]
  by_cases h : f = k
  · subst h; simp
  · have : ¬ f.data.toList = k.data.toList := fun e => h (WideShapes.bytes_inj e)
    rw [decide_eq_false h]
    exact beq_eq_false_iff_ne.2 this

theorem isB_call (f : ByteArray) (w : World) : Calls Tryd.prog 15 #[.string f] w fun e w' => e = .returned (.bool (isB f)) ∧ w = w' := by
  have e1 := beq_key f k1 [100, 105, 115, 114, 117, 112, 116, 105, 111, 110, 115, 65, 108, 108, 111, 119, 101, 100] rfl
  have e2 := beq_key f k2 [99, 117, 114, 114, 101, 110, 116, 72, 101, 97, 108, 116, 104, 121] rfl
  have e3 := beq_key f k3 [100, 101, 115, 105, 114, 101, 100, 72, 101, 97, 108, 116, 104, 121] rfl
  have e4 := beq_key f k4 [101, 120, 112, 101, 99, 116, 101, 100, 80, 111, 100, 115] rfl
  unfold isB
  generalize decide (f = k1) = x1 at *
  generalize decide (f = k2) = x2 at *
  generalize decide (f = k3) = x3 at *
  generalize decide (f = k4) = x4 at *
  cases x1 <;> cases x2 <;> cases x3 <;> cases x4
  all_goals
    go_enter Tryd.func15, Tryd.ntmps15
    go_wp2
    go_ret
    exact ⟨rfl, rfl⟩

/-- The four names, by their places. -/
def nmAt : Nat → ByteArray
  | 0 => k1
  | 1 => k2
  | 2 => k3
  | _ => k4

theorem isB_nmAt (k : Nat) : isB (nmAt k) = true := by
  match k with
  | 0 => simp [isB, nmAt]
  | 1 => simp [isB, nmAt]
  | 2 => simp [isB, nmAt]
  | n + 3 => simp [isB, nmAt]
theorem nmAt_size (k : Nat) : (nmAt k).size ≤ maxLen := by
  match k with
  | 0 => decide
  | 1 => decide
  | 2 => decide
  | n + 3 => show k4.size ≤ maxLen; decide

def nameCells : Array Value := #[.string k1, .string k2, .string k3, .string k4]

theorem idx30 (B k : Nat) (hk : k < 4) (w : World) : (Instr.indexAt 30 (.pointer (some ⟨B, 0, none⟩)) (.int .i64 (k : Int))).run Tryd.prog w = .ok (.pointer (some ⟨B, k, none⟩)) w := by
  have el : Tryd.prog.elem 30 = 9 := by simp [Program.elem, Tryd.underlying30]
  have al : Tryd.prog.arrayLen 30 = 4 := by simp [Program.arrayLen, Tryd.underlying30]
  rw [run_indexAt_array w 30 _ .i64 k (by rw [al, el]; exact Tryd.underlying30), al, if_pos ⟨by omega, by omega⟩, el, size9]
  have e : (⟨B, 0, none⟩ : Addr).add k = ⟨B, k, none⟩ := by unfold Addr.add; split <;> simp_all
  simp [Result.andThen, e]

theorem names_at (w : World) : Hid (∀ q, q < 4 → (w.alloc (.cells nameCells 30)).cell? ⟨w.heap.size, q, none⟩ = some (.string (nmAt q))) := by
  intro q hq
  have hb := (MapKept.heap_alloc w (.cells nameCells 30)).1
  match q, hq with
  | 0, _ => unfold World.cell?; simp only [hb]; rfl
  | 1, _ => unfold World.cell?; simp only [hb]; rfl
  | 2, _ => unfold World.cell?; simp only [hb]; rfl
  | 3, _ => unfold World.cell?; simp only [hb]; rfl

set_option maxRecDepth 100000 in
set_option maxHeartbeats 2000000 in
theorem law5_walk (a1 a2 : Option Addr) (l1 l2 c1 c2 b1 b2 o1 o2 : Nat) (s1 s2 : List ByteArray) (f : ByteArray) (w : World)
    (h1 : SL w a1 l1 c1 b1 o1 s1) (h2 : SL w a2 l2 c2 b2 o2 s2) (m1 : l1 ≤ maxLen) (m2 : l2 ≤ maxLen) (mf : f.size ≤ maxLen) (hE : Errs w) :
    Calls Tryd.prog 5 #[.slice a1 l1 c1, .slice a2 l2 c2, .string f] w fun e w' => e = .returned (.bool true) ∧ Below w.heap.size w w' := by
  have q2 := fun (w : World) (a : Option Addr) (n c : Nat) => run_neq_slice_nil_any (P := Tryd.prog) w 27 9 a n c 0 0 Tryd.underlying27
  have bl0 := Below.refl w.heap.size w
  go_enter Tryd.func5, Tryd.ntmps5
  go_wp2_with fail
  refine (bytes12_any _ _ _ _ _ _ _ _ _ _ _ _ _ _ h1 h2 m1 m2).mono ?_
  rintro e w' ⟨⟨x, rfl⟩, rfl⟩
  cases x
  · go_wp2
    go_ret
    exact ⟨rfl, bl0⟩
  by_cases hbig : l1 ≤ 65536 ∧ l2 ≤ 65536 ∧ f.size ≤ 65536
  · obtain ⟨k1, k2, k3⟩ := hbig
    go_wp2_with fail
    refine (addBytes_any _ _ _ _ _ _ _ _ h1 m1).mono ?_
    rintro e w' ⟨⟨n1, rfl⟩, hw'⟩
    obtain rfl := hw'.symm
    go_wp2_with fail
    refine (addBytes_any _ _ _ _ _ _ _ _ h2 m2).mono ?_
    rintro e w' ⟨⟨n2, rfl⟩, hw'⟩
    obtain rfl := hw'.symm
    go_upto_if 42 with fail
    generalize decide (1048576 < wrap64 (n2 + (f.size : Int))) = big
    cases big
    · skip
      go_upto_if 44 with fail
      go_cut [0] (fun xx wc => ∃ (a : Option Addr) (cap b o : Nat), xx = .slice a l1 cap ∧ SL wc a l1 cap b o s1 ∧ Below w.heap.size w wc)
      case first =>
        have hmk := make27 l1 k1
        go_wp2_with (refine wpList_copy27 rfl _ _ rfl _ _ _ _ _ _ rfl rfl h1 _ _ (Below.refl _ _) (Nat.le_refl _) ?_; intro w' hsl hbl hbl')
        · go_meet
          case rel => exact ⟨_, _, _, _, rfl, hsl, hbl⟩
        · go_meet
          case rel => exact ⟨_, _, _, _, rfl, h1, Below.refl _ _⟩
      case rest =>
        rename World => w1
        obtain ⟨p1, cp1, bb1, oo1, rfl, hg1, bl1⟩ := hcut
        have x1_1 := hg1
        have x1_2 := h2.keep bl1
        clear hg1 h1 h2
        go_upto_if 53 with fail
        go_cut [1] (fun xx wc => ∃ (a : Option Addr) (cap b o : Nat), xx = .slice a l2 cap ∧ SL wc a l2 cap b o s2 ∧ Below w1.heap.size w1 wc)
        case first =>
          have hmk := make27 l2 k2
          go_wp2_with (refine wpList_copy27 rfl _ _ rfl _ _ _ _ _ _ rfl rfl x1_2 _ _ (Below.refl _ _) (Nat.le_refl _) ?_; intro w' hsl hbl hbl')
          · go_meet
            case rel => exact ⟨_, _, _, _, rfl, hsl, hbl⟩
          · go_meet
            case rel => exact ⟨_, _, _, _, rfl, x1_2, Below.refl _ _⟩
        case rest =>
          rename World => w2
          obtain ⟨p2, cp2, bb2, oo2, rfl, hg2, bl2⟩ := hcut
          have x2_1 := x1_1.keep bl2
          have x2_2 := hg2
          clear hg2 x1_1 x1_2
          have bl : Below w.heap.size w w2 := bl1.trans (bl2.mono bl1.size)
          have hE2 := errs_below hE bl (errs_size hE)
          clear bl1 bl2 q2 hE bl0
          go_wp2_with fail
          go_loopw [10] (fun i wr => ∃ k : Nat, k ≤ 4 ∧ i = .int .i64 k ∧ Hid (∀ q, q < 4 → wr.cell? ⟨w2.heap.size, q, none⟩ = some (.string (nmAt q))) ∧ w2.heap.size < wr.heap.size ∧ Below w2.heap.size w2 wr) (fun i _ => 4 - (intOf i).toNat)
          case atStart =>
            refine ⟨0, by omega, rfl, names_at _, by simp, (Below.refl _ _).alloc (Nat.le_refl _) _⟩
          case round =>
            obtain ⟨k, hk, rfl, HN, hsz, hnx⟩ := hrel
            have y1 := x2_1.keep hnx
            have y2 := x2_2.keep hnx
            have hE3 := errs_below hE2 hnx (errs_size hE2)
            by_cases hlt : k < 4
            · have hi := idx30 w2.heap.size k hlt wr
              have hc := HN.out k hlt
              go_wp2_with fail
              refine (count_t (nmAt k) _ _ _ _ _ _ _ _ _ _ _ _ _ y1 y2 (by omega) (by omega) (nmAt_size k) hE3 (isB_nmAt k)).mono ?_
              rintro e w3 ⟨rfl, bl3⟩
              have HN3 : Hid (∀ q, q < 4 → w3.cell? ⟨w2.heap.size, q, none⟩ = some (.string (nmAt q))) := fun q hq => (bl3.cell (p := ⟨w2.heap.size, q, none⟩) hsz).trans (HN.out q hq)
              have hn3 : Below w2.heap.size w2 w3 := hnx.trans (bl3.mono hnx.size)
              have hz3 : w2.heap.size < w3.heap.size := Nat.lt_of_lt_of_le hsz bl3.size
              clear bl3 hnx hsz HN y1 y2 hE3 hi hc
              go_wp2
              go_roundw
              case rel => exact ⟨k + 1, by omega, by go_num, HN3, hz3, hn3⟩
              case measure => simp [intOf]; omega
            · cases hb : isB f
              · have HB : Hid (isB f = false) := hb
                clear hb
                go_wp2_with fail
                refine (count_f f _ _ _ _ _ _ _ _ _ _ _ _ _ y1 y2 (by omega) (by omega) mf HB.out).mono ?_
                rintro e w3 ⟨rfl, bl3⟩
                go_wp2_with fail
                refine (isB_call f w3).mono ?_
                rintro e w4 ⟨rfl, rfl⟩
                rw [HB.out]
                go_wp2
                go_ret
                exact ⟨rfl, (bl.trans (hnx.mono bl.size)).trans (bl3.mono (Nat.le_trans bl.size hnx.size))⟩
              · have HB : Hid (isB f = true) := hb
                clear hb
                go_wp2_with fail
                refine (count_t f _ _ _ _ _ _ _ _ _ _ _ _ _ y1 y2 (by omega) (by omega) mf hE3 HB.out).mono ?_
                rintro e w3 ⟨rfl, bl3⟩
                go_wp2_with fail
                refine (isB_call f w3).mono ?_
                rintro e w4 ⟨rfl, rfl⟩
                rw [HB.out]
                go_wp2
                go_ret
                exact ⟨rfl, (bl.trans (hnx.mono bl.size)).trans (bl3.mono (Nat.le_trans bl.size hnx.size))⟩
    · go_wp2
      go_ret
      exact ⟨rfl, bl0⟩
  · clear q2 h1 h2
    go_wp2_with fail
    all_goals
      go_ret
      exact ⟨rfl, bl0⟩

end Go.Proofs.Qxb6612378aDoor
