import Derived.Test.Qxb6612378aApp
namespace Go.Proofs.Qxb6612378a
open Go.RowKit Go.WideMaps Go.Maps

set_option maxRecDepth 100000 in
set_option maxHeartbeats 2000000 in
theorem law2_walk (a1 a2 a3 a4 : Option Addr) (l1 l2 l3 l4 c1 c2 c3 c4 b1 b2 b3 b4 o1 o2 o3 o4 : Nat) (s1 s2 s3 s4 : List ByteArray) (wr : Bool) (w : World)
    (h1 : SL w a1 l1 c1 b1 o1 s1) (h2 : SL w a2 l2 c2 b2 o2 s2) (h3 : SL w a3 l3 c3 b3 o3 s3) (h4 : SL w a4 l4 c4 b4 o4 s4)
    (m1 : l1 ≤ maxLen) (m2 : l2 ≤ maxLen) (m3 : l3 ≤ maxLen) (m4 : l4 ≤ maxLen) :
    Calls Try.prog 4 #[.slice a1 l1 c1, .slice a2 l2 c2, .bool wr, .slice a3 l3 c3, .slice a4 l4 c4] w fun e w' => e = .returned (.bool true) ∧ Below w.heap.size w w' := by
  have q2 := fun (w : World) (a : Option Addr) (n c : Nat) => run_neq_slice_nil_any (P := Try.prog) w 22 9 a n c 0 0 Try.underlying22
  have bl0 := Below.refl w.heap.size w
  go_enter Try.func4, Try.ntmps4
  go_wp2_with fail
  refine (bytes10_any _ _ _ _ _ _ _ _ _ _ _ _ _ _ _ _ _ _ _ _ _ _ _ _ _ _ h1 h2 h3 h4 m1 m2 m3 m4).mono ?_
  rintro e w' ⟨⟨x, rfl⟩, hw'⟩
  obtain rfl := hw'.symm
  cases x
  · go_wp2
    go_ret
    exact ⟨rfl, bl0⟩
  by_cases hbig : l1 ≤ 65536 ∧ l2 ≤ 65536 ∧ l3 ≤ 65536 ∧ l4 ≤ 65536
  · obtain ⟨k1, k2, k3, k4⟩ := hbig
    go_wp2_with fail
    refine (addBytes_any _ _ _ _ _ _ _ _ h1 m1).mono ?_
    rintro e w' ⟨⟨n1, rfl⟩, hw'⟩
    obtain rfl := hw'.symm
    go_wp2_with fail
    refine (addBytes_any _ _ _ _ _ _ _ _ h2 m2).mono ?_
    rintro e w' ⟨⟨n2, rfl⟩, hw'⟩
    obtain rfl := hw'.symm
    go_wp2_with fail
    refine (addBytes_any _ _ _ _ _ _ _ _ h3 m3).mono ?_
    rintro e w' ⟨⟨n3, rfl⟩, hw'⟩
    obtain rfl := hw'.symm
    go_wp2_with fail
    refine (addBytes_any _ _ _ _ _ _ _ _ h4 m4).mono ?_
    rintro e w' ⟨⟨n4, rfl⟩, hw'⟩
    obtain rfl := hw'.symm
    by_cases hn : 1048576 < n4
    · go_wp2
      go_ret
      exact ⟨rfl, bl0⟩
    clear bl0
    go_upto_if 66 with fail
    go_cut [0] (fun xx wc => ∃ (a : Option Addr) (cap b o : Nat), xx = .slice a l1 cap ∧ SL wc a l1 cap b o s1 ∧ Below w.heap.size w wc)
    case first =>
      have hmk := make22 l1 k1
      go_wp2_with (refine wpList_copy22 rfl _ _ rfl _ _ _ _ _ _ rfl rfl h1 _ _ (Below.refl _ _) (Nat.le_refl _) ?_; intro w' hsl hbl hbl')
      · go_meet
        case rel => exact ⟨_, _, _, _, rfl, hsl, hbl⟩
      · go_meet
        case rel => exact ⟨_, _, _, _, rfl, h1, Below.refl _ _⟩
    case rest =>
      rename World => w1
      obtain ⟨p1, cp1, bb1, oo1, rfl, hg1, bl1⟩ := hcut
      have x1_1 := hg1
      have x1_2 := h2.keep bl1
      have x1_3 := h3.keep bl1
      have x1_4 := h4.keep bl1
      clear hg1 h1 h2 h3 h4
      go_upto_if 75 with fail
      go_cut [1] (fun xx wc => ∃ (a : Option Addr) (cap b o : Nat), xx = .slice a l2 cap ∧ SL wc a l2 cap b o s2 ∧ Below w1.heap.size w1 wc)
      case first =>
        have hmk := make22 l2 k2
        go_wp2_with (refine wpList_copy22 rfl _ _ rfl _ _ _ _ _ _ rfl rfl x1_2 _ _ (Below.refl _ _) (Nat.le_refl _) ?_; intro w' hsl hbl hbl')
        · go_meet
          case rel => exact ⟨_, _, _, _, rfl, hsl, hbl⟩
        · go_meet
          case rel => exact ⟨_, _, _, _, rfl, x1_2, Below.refl _ _⟩
      case rest =>
        rename World => w2
        obtain ⟨p2, cp2, bb2, oo2, rfl, hg2, bl2⟩ := hcut
        have x2_1 := x1_1.keep bl2
        have x2_2 := hg2
        have x2_3 := x1_3.keep bl2
        have x2_4 := x1_4.keep bl2
        clear hg2 x1_1 x1_2 x1_3 x1_4
        go_upto_if 84 with fail
        go_cut [3] (fun xx wc => ∃ (a : Option Addr) (cap b o : Nat), xx = .slice a l3 cap ∧ SL wc a l3 cap b o s3 ∧ Below w2.heap.size w2 wc)
        case first =>
          have hmk := make22 l3 k3
          go_wp2_with (refine wpList_copy22 rfl _ _ rfl _ _ _ _ _ _ rfl rfl x2_3 _ _ (Below.refl _ _) (Nat.le_refl _) ?_; intro w' hsl hbl hbl')
          · go_meet
            case rel => exact ⟨_, _, _, _, rfl, hsl, hbl⟩
          · go_meet
            case rel => exact ⟨_, _, _, _, rfl, x2_3, Below.refl _ _⟩
        case rest =>
          rename World => w3
          obtain ⟨p3, cp3, bb3, oo3, rfl, hg3, bl3⟩ := hcut
          have x3_1 := x2_1.keep bl3
          have x3_2 := x2_2.keep bl3
          have x3_3 := hg3
          have x3_4 := x2_4.keep bl3
          clear hg3 x2_1 x2_2 x2_3 x2_4
          go_upto_if 93 with fail
          go_cut [4] (fun xx wc => ∃ (a : Option Addr) (cap b o : Nat), xx = .slice a l4 cap ∧ SL wc a l4 cap b o s4 ∧ Below w3.heap.size w3 wc)
          case first =>
            have hmk := make22 l4 k4
            go_wp2_with (refine wpList_copy22 rfl _ _ rfl _ _ _ _ _ _ rfl rfl x3_4 _ _ (Below.refl _ _) (Nat.le_refl _) ?_; intro w' hsl hbl hbl')
            · go_meet
              case rel => exact ⟨_, _, _, _, rfl, hsl, hbl⟩
            · go_meet
              case rel => exact ⟨_, _, _, _, rfl, x3_4, Below.refl _ _⟩
          case rest =>
            rename World => w4
            obtain ⟨p4, cp4, bb4, oo4, rfl, hg4, bl4⟩ := hcut
            have x4_1 := x3_1.keep bl4
            have x4_2 := x3_2.keep bl4
            have x4_3 := x3_3.keep bl4
            have x4_4 := hg4
            clear hg4 x3_1 x3_2 x3_3 x3_4
            have bl : Below w.heap.size w w4 := ((bl1.trans (bl2.mono bl1.size)).trans (bl3.mono (Nat.le_trans bl1.size bl2.size))).trans (bl4.mono (Nat.le_trans (Nat.le_trans bl1.size bl2.size) bl3.size))
            clear bl1 bl2 bl3 bl4 q2
            obtain ⟨yl, hyl⟩ : ∃ yl, yl = Y wr lim s3 s4 (min l3 l4) := ⟨_, rfl⟩
            obtain ⟨yr, hyr⟩ : ∃ yr, yr = Y wr req s3 s4 (min l3 l4) := ⟨_, rfl⟩
            have hsm : ∀ s ∈ vl yl ++ vl yr, s.size ≤ maxLen := by
              rw [hyl, hyr]
              intro s hs
              rcases List.mem_append.1 hs with h | h
              · exact small_Y x4_4.small s h
              · exact small_Y x4_4.small s h
            have HL : Hid (yl = Y wr lim s3 s4 (min l3 l4)) := hyl
            have HR : Hid (yr = Y wr req s3 s4 (min l3 l4)) := hyr
            clear hyl hyr
            go_wp2_with fail
            refine (model_tup _ _ _ _ _ _ _ _ _ _ _ _ _ _ x4_3 x4_4 (by omega) yl yr HL.out HR.out).mono ?_
            rintro e w' ⟨rfl, rfl⟩
            go_wp2_with fail
            refine (zz_tup _ _ _ _ _ _ _ _ _ _ _ _ _ _ _ _ _ _ _ _ _ _ _ _ _ _ x4_1 x4_2 x4_3 x4_4 (by omega) (by omega) (by omega) (by omega) yl yr HL.out HR.out).mono ?_
            rintro e w5 ⟨rfl, bl5⟩
            have x5_1 := x4_1.keep bl5
            have x5_2 := x4_2.keep bl5
            clear x4_1 x4_2 x4_3 x4_4 HL HR
            have bl' : Below w.heap.size w w5 := bl.trans (bl5.mono bl.size)
            clear bl bl5
            go_wp2_with fail
            refine (cnt_call yl yr _).mono ?_
            rintro e w' ⟨rfl, rfl⟩
            go_upto_if 137 with fail
            go_cut [16, 21, 24, 25] (fun b16 b21 k v wc => b16 = .bool yl.isSome ∧ b21 = .bool yl.isSome ∧ Two wc w5.heap.size k v (yn yl) (nm lim yl) (vl yl) ∧ Below w5.heap.size w5 wc)
            case first =>
              go_wp2_with (first | (at_builtin; refine wpList_app1 rfl (.tmp 138) (.tmp 139) rfl _ 0 [] _ w5.heap.size rfl rfl (World.ownsRow_nil _ _ _ _) (by omega) (Nat.le_refl _) ?_; intro k1 w6 hok hgk hlk) | (at_builtin; refine wpList_app1 rfl (.tmp 141) (.tmp 143) rfl _ 0 [] _ w5.heap.size rfl rfl (World.ownsRow_nil _ _ _ _) (by omega) hgk.size ?_; intro v1 w7 hov hgv hlv))
              · go_meet
                case rel =>
                  refine ⟨isS ‹_›, isS ‹_›, ?_, ?_⟩
                  · exact two_first ‹_› hok hgk hlk hov hgv hlv
                  · exact (((Below.refl _ _).grown hgk (Nat.le_refl _) (fun _ h => by cases h)).grown hgv hgk.size (fun _ h => by cases h))
              · go_meet
                case rel => exact ⟨rfl, rfl, two_none ‹_› _ _, Below.refl _ _⟩
            case rest =>
              rename World => w6
              obtain ⟨rfl, rfl, hT, bl6⟩ := hcut
              have hn := yn_le yl
              go_upto_if 145 with fail
              go_cut [18, 23, 24, 25] (fun b18 b23 k v wc => b18 = .bool yr.isSome ∧ b23 = .bool yr.isSome ∧ ∃ (ka : Option Addr) (kc kb : Nat) (va : Option Addr) (vc vb : Nat), k = .slice ka (yn yl + yn yr) kc ∧ v = .slice va (yn yl + yn yr) vc ∧ SL wc ka (yn yl + yn yr) kc kb 0 (nm lim yl ++ nm req yr) ∧ SL wc va (yn yl + yn yr) vc vb 0 (vl yl ++ vl yr) ∧ Below w5.heap.size w5 wc)
              case first =>
                go_wp2_with (first | (at_builtin; refine wpList_app1 rfl (.tmp 146) (.tmp 147) rfl _ (yn yl) (nm lim yl) _ w5.heap.size rfl rfl hT.K (by omega) bl6.size ?_; intro k1 w7 hok hgk hlk) | (at_builtin; refine wpList_app1 rfl (.tmp 149) (.tmp 151) rfl _ (yn yl) (vl yl) _ w5.heap.size rfl rfl (hT.between hgk) (by omega) (Nat.le_trans bl6.size hgk.size) ?_; intro v1 w8 hov hgv hlv))
                · go_meet
                  case rel => refine ⟨isS ‹_›, isS ‹_›, ?_⟩; exact two_out ‹_› hsm (hT.more hok hgk hlk hov hgv hlv) (grown_below (grown_below bl6 hT.K hgk bl6.size) (hT.between hgk) hgv (Nat.le_trans bl6.size hgk.size))
                · go_meet
                  case rel => refine ⟨rfl, rfl, ?_⟩; exact two_out_none ‹_› hsm hT bl6
              case rest =>
                rename World => w7
                obtain ⟨rfl, rfl, ka, kc, kb, va, vc, vb, rfl, rfl, slk, slv, bl7⟩ := hcut
                have hn2 := yn_le yr
                clear hT bl6
                go_wp2_with fail
                refine (zz_tup _ _ _ _ _ _ _ _ _ _ _ _ _ _ _ _ _ _ _ _ _ _ _ _ _ _ (x5_1.keep bl7) (x5_2.keep bl7) slk slv (by omega) (by omega) (by omega) (by omega) yl yr (again_lim yl yr).symm (again_req yl yr).symm).mono ?_
                rintro e w8 ⟨rfl, bl8⟩
                go_wp2
                go_ret
                exact ⟨rfl, (bl'.trans (bl7.mono bl'.size)).trans (bl8.mono (Nat.le_trans bl'.size bl7.size))⟩
  · clear q2 h1 h2 h3 h4
    go_wp2_with fail
    all_goals
      go_ret
      exact ⟨rfl, bl0⟩

end Go.Proofs.Qxb6612378a
