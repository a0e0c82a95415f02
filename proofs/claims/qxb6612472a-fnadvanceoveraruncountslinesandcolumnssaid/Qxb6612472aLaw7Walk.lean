import Derived.Test.Qxb6612472aPlain
import Derived.Deep.RegionWith
namespace Go.Proofs.Qxb6612472a
open Go.RowKit

theorem Kf_pos (z : Nat → Int) (cr : Bool) {p : Nat} (h : 0 < p) : Kf z cr p = (z (p - 1) == 13) := by
  obtain ⟨j, rfl⟩ : ∃ j, p = j + 1 := ⟨p - 1, by omega⟩
  rfl
theorem Kf_nought (z : Nat → Int) (cr : Bool) {p : Nat} (h : ¬ 0 < p) : Kf z cr p = cr := by
  obtain rfl : p = 0 := by omega
  rfl
theorem idx_pred {w : World} {a : Option Addr} {len cap b off : Nat} {z : Nat → Int} (h : RL w a len cap b off z) {p : Nat} (h0 : 0 < p) (hp : p < len) (w' : World) :
    (Instr.indexAt 23 (.slice a len cap) (.int .i64 ((p : Int) - 1))).run Try.prog w' = .ok (.pointer (some ⟨b, off + (p - 1), none⟩)) w' := by
  have e : ((p - 1 : Nat) : Int) = (p : Int) - 1 := by omega
  rw [← e]
  exact h.idx (p - 1) w' (by omega)
theorem idx_last {w : World} {a : Option Addr} {len cap b off : Nat} {z : Nat → Int} (h : RL w a len cap b off z) (h0 : 0 < len) (w' : World) :
    (Instr.indexAt 23 (.slice a len cap) (.int .i64 ((len : Int) - 1))).run Try.prog w' = .ok (.pointer (some ⟨b, off + (len - 1), none⟩)) w' := by
  have e : ((len - 1 : Nat) : Int) = (len : Int) - 1 := by omega
  rw [← e]
  exact h.idx (len - 1) w' (by omega)
theorem En_13 {z : Nat → Int} {cr : Bool} {i : Nat} (h : z i = 13) : En z cr (i + 1) = En z cr i + 1 := if_pos (.inl h)
theorem En_other {z : Nat → Int} {cr : Bool} {i : Nat} (h : ¬ z i = 13) (h2 : ¬ z i = 10) : En z cr (i + 1) = En z cr i := if_neg (by omega)
theorem En_10f {z : Nat → Int} {cr : Bool} {i : Nat} (h : z i = 10) (h2 : Kf z cr i = false) : En z cr (i + 1) = En z cr i + 1 := if_pos (.inr ⟨h, h2⟩)
theorem En_10t {z : Nat → Int} {cr : Bool} {i : Nat} (h : z i = 10) (h2 : Kf z cr i = true) : En z cr (i + 1) = En z cr i := if_neg (by rw [h2]; simp; omega)

set_option maxRecDepth 100000 in
set_option maxHeartbeats 4000000 in
theorem law7_f (o l c : Int) (a : Option Addr) (len cap b off : Nat) (z : Nat → Int) (w : World) (hz : RL w a len cap b off z) (hbig : len ≤ 65536)
    (hl0 : -9223372036854775808 ≤ l) (hl1 : l ≤ 9223372036854775807) (hc0 : -9223372036854775808 ≤ c) (hc1 : c ≤ 9223372036854775807) :
    Calls Try.prog 4 #[.int .i64 o, .int .i64 l, .int .i64 c, .bool false, .slice a len cap] w fun e w' => e = .returned (.bool true) ∧ Below w.heap.size w w' := by
  have bl0 := Below.refl w.heap.size w
  go_enter Try.func4, Try.ntmps4
  go_wp2_with fail
  refine (bytes7_any o l c false a len cap w (by unfold maxLen; omega)).mono ?_
  rintro e w' ⟨⟨x, rfl⟩, rfl⟩
  cases x
  · go_wp2
    go_ret
    exact ⟨rfl, bl0⟩
  go_wp2_with fail
  go_loopw [11, 12, 13, 14, 15] (fun xo xl xc xk xi wr => ∃ q : Nat, q ≤ len ∧ xi = .int .i64 q ∧ xo = .int .i64 (Of z o q) ∧ xl = .int .i64 (Lf z false l q) ∧ xc = .int .i64 (Cf z false c q) ∧ xk = .bool (Kf z false q) ∧ Below w.heap.size w wr)
    (fun _ _ _ _ xi _ => len - (intOf xi).toNat)
  case atStart => exact ⟨0, Nat.zero_le _, rfl, rfl, rfl, rfl, rfl, bl0⟩
  case round =>
    obtain ⟨q, hq, rfl, rfl, rfl, rfl, rfl, hnx⟩ := hrel
    have hz1 := hz.keep hnx
    clear bl0
    by_cases hlt : q < len
    · have hi := fun w' => hz1.idx q w' hlt
      have hcl := hz1.cell q hlt
      have HO : Hid (Of z o (q + 1) = wrap64 (Of z o q + rl (z q))) := rfl
      have HL : Hid (Lf z false l (q + 1) = aL (Kf z false q) (z q) (Lf z false l q)) := rfl
      have HC : Hid (Cf z false c (q + 1) = aC (Kf z false q) (z q) (Cf z false c q)) := rfl
      have HK : Hid (Kf z false (q + 1) = (z q == 13)) := rfl
      clear hz hz1
      generalize Of z o q = vo at *
      generalize Lf z false l q = vl at *
      generalize Cf z false c q = vc at *
      generalize Kf z false q = vk at *
      generalize z q = r at *
      go_wp2_with fail
      go_region_with (first | (go_at_call 9; refine (runelen_any r _).mono ?_; rintro e w' ⟨rfl, rfl⟩) | (go_at_call 8; refine (adv_any vo vl vc (rl r) r vk _).mono ?_; rintro e w1 ⟨rfl, bl1⟩))
      all_goals
        have hn2 : Below w.heap.size w w1 := hnx.drew.trans (bl1.mono (by exact hnx.size))
        clear bl1 hnx hi hcl
        go_wp2
        go_roundw
        case rel => exact ⟨q + 1, by omega, by go_num, by rw [HO.out], by rw [HL.out], by rw [HC.out], by rw [HK.out], hn2⟩
        case measure => simp [intOf]; omega
    · obtain ⟨vo, hvo⟩ : ∃ vo, vo = Of z o q := ⟨_, rfl⟩
      obtain ⟨vl, hvl⟩ : ∃ vl, vl = Lf z false l q := ⟨_, rfl⟩
      obtain ⟨vc, hvc⟩ : ∃ vc, vc = Cf z false c q := ⟨_, rfl⟩
      obtain ⟨vk, hvk⟩ : ∃ vk, vk = Kf z false q := ⟨_, rfl⟩
      rw [← hvo, ← hvl, ← hvc, ← hvk]
      have hql : q = len := by omega
      rw [hql] at hvo hvl hvc hvk
      rw [Lf_eq z false l hl0 hl1] at hvl
      rw [Cf_eq z false c hc0 hc1 (fun h => by cases h) len hbig] at hvc
      have VO : Hid (vo = Of z o len) := hvo
      have VL : Hid (vl = wrap64 (l + En z false len)) := hvl
      have VC : Hid (vc = if 0 ≤ La z len then (len : Int) - La z len else wrap64 (c + len)) := hvc
      have VK : Hid (vk = Kf z false len) := hvk
      clear hvo hvl hvc hvk hql hz
      go_wp2_with fail
      go_loopw [16, 17, 18, 19] (fun xw xe xla xi wc => ∃ p : Nat, p ≤ len ∧ xi = .int .i64 p ∧ xw = .int .i64 (Of z o p) ∧ xe = .int .i64 (En z false p) ∧ xla = .int .i64 (La z p) ∧ Below wr.heap.size wr wc)
        (fun _ _ _ xi _ => len - (intOf xi).toNat)
      case atStart => exact ⟨0, Nat.zero_le _, rfl, rfl, rfl, rfl, Below.refl _ _⟩
      case round =>
        rename World => wc
        obtain ⟨p, hp, rfl, rfl, rfl, rfl, hn3⟩ := hrel
        have hz3 := hz1.keep hn3
        have eb := En_bd z false p
        have lb := La_bd z p
        by_cases hlp : p < len
        · have hi := fun w' => hz3.idx p w' hlp
          have hcl := hz3.cell p hlp
          by_cases h13 : z p = 13
          · have e13 : (z p == 13) = true := beq_iff_eq.2 h13
            have e10 : (z p == 10) = false := beq_eq_false_iff_ne.2 (by omega)
            have HE : Hid (En z false (p + 1) = En z false p + 1) := En_13 h13
            have HA : Hid (La z (p + 1) = (p : Int)) := La_t z p (.inl h13)
            clear h13
            by_cases hp0 : 0 < p
            · have hij := idx_pred hz3 hp0 hlp
              have hcj := hz3.cell (p - 1) (by omega)
              clear hz1 hz3
              go_wp2_with (go_at_call 9; refine (runelen_any _ _).mono ?_; rintro e w' ⟨rfl, rfl⟩)
              go_roundw
              case rel => exact ⟨p + 1, by omega, by go_num, rfl, by rw [HE.out], by rw [HA.out], hn3⟩
              case measure => simp [intOf]; omega
            · clear hz1 hz3
              go_wp2_with (go_at_call 9; refine (runelen_any _ _).mono ?_; rintro e w' ⟨rfl, rfl⟩)
              go_roundw
              case rel => exact ⟨p + 1, by omega, by go_num, rfl, by rw [HE.out], by rw [HA.out], hn3⟩
              case measure => simp [intOf]; omega
          · by_cases h10 : z p = 10
            · have e10 : (z p == 10) = true := beq_iff_eq.2 h10
              have e13 : (z p == 13) = false := beq_eq_false_iff_ne.2 h13
              have HA : Hid (La z (p + 1) = (p : Int)) := La_t z p (.inr h10)
              by_cases hp0 : 0 < p
              · have hij := idx_pred hz3 hp0 hlp
                have hcj := hz3.cell (p - 1) (by omega)
                have hkp := Kf_pos z false hp0
                cases hk : (z (p - 1) == 13)
                · have HE : Hid (En z false (p + 1) = En z false p + 1) := En_10f h10 (hkp.trans hk)
                  clear h10 h13 hkp hz1 hz3
                  go_wp2_with (go_at_call 9; refine (runelen_any _ _).mono ?_; rintro e w' ⟨rfl, rfl⟩)
                  go_roundw
                  case rel => exact ⟨p + 1, by omega, by go_num, rfl, by rw [HE.out], by rw [HA.out], hn3⟩
                  case measure => simp [intOf]; omega
                · have HE : Hid (En z false (p + 1) = En z false p) := En_10t h10 (hkp.trans hk)
                  clear h10 h13 hkp hz1 hz3
                  go_wp2_with (go_at_call 9; refine (runelen_any _ _).mono ?_; rintro e w' ⟨rfl, rfl⟩)
                  go_roundw
                  case rel => exact ⟨p + 1, by omega, by go_num, rfl, by rw [HE.out], by rw [HA.out], hn3⟩
                  case measure => simp [intOf]; omega
              · have HE : Hid (En z false (p + 1) = En z false p + 1) := En_10f h10 (Kf_nought z false hp0)
                clear h10 h13 hz1 hz3
                go_wp2_with (go_at_call 9; refine (runelen_any _ _).mono ?_; rintro e w' ⟨rfl, rfl⟩)
                go_roundw
                case rel => exact ⟨p + 1, by omega, by go_num, rfl, by rw [HE.out], by rw [HA.out], hn3⟩
                case measure => simp [intOf]; omega
            · have e10 : (z p == 10) = false := beq_eq_false_iff_ne.2 h10
              have e13 : (z p == 13) = false := beq_eq_false_iff_ne.2 h13
              have HE : Hid (En z false (p + 1) = En z false p) := En_other h13 h10
              have HA : Hid (La z (p + 1) = La z p) := La_f z p (by omega)
              clear h10 h13 hz1 hz3
              go_wp2_with (go_at_call 9; refine (runelen_any _ _).mono ?_; rintro e w' ⟨rfl, rfl⟩)
              go_roundw
              case rel => exact ⟨p + 1, by omega, by go_num, rfl, by rw [HE.out], by rw [HA.out], hn3⟩
              case measure => simp [intOf]; omega
        · have hpl : p = len := by omega
          rw [hpl] at eb lb
          have el2 := VL.out
          rw [hpl, VO.out, VL.out, VC.out, VK.out]
          clear VO VL VC VK el2
          by_cases hla : 0 ≤ La z len
          · rw [if_pos hla]
            by_cases hn0 : 0 < len
            · have hij := idx_last hz3 hn0
              have hcj := hz3.cell (len - 1) (by omega)
              rw [Kf_pos z false hn0]
              clear hz1 hz3
              go_wp2
              go_ret
              exact ⟨rfl, hnx.trans (hn3.mono hnx.size)⟩
            · omega
          · rw [if_neg hla]
            by_cases hn0 : 0 < len
            · have hij := idx_last hz3 hn0
              have hcj := hz3.cell (len - 1) (by omega)
              rw [Kf_pos z false hn0]
              clear hz1 hz3
              go_wp2
              go_ret
              exact ⟨rfl, hnx.trans (hn3.mono hnx.size)⟩
            · rw [Kf_nought z false hn0, wrap_id (x := l + En z false len) (by omega) (by omega), wrap_id (x := c + (len : Int)) (by omega) (by omega)]
              clear hz1 hz3
              go_wp2
              go_ret
              exact ⟨rfl, hnx.trans (hn3.mono hnx.size)⟩

set_option maxRecDepth 100000 in
set_option maxHeartbeats 4000000 in
theorem law7_t (o l : Int) (a : Option Addr) (len cap b off : Nat) (z : Nat → Int) (w : World) (hz : RL w a len cap b off z) (hbig : len ≤ 65536)
    (hl0 : -9223372036854775808 ≤ l) (hl1 : l ≤ 9223372036854775807) :
    Calls Try.prog 4 #[.int .i64 o, .int .i64 l, .int .i64 1, .bool true, .slice a len cap] w fun e w' => e = .returned (.bool true) ∧ Below w.heap.size w w' := by
  have bl0 := Below.refl w.heap.size w
  go_enter Try.func4, Try.ntmps4
  go_wp2_with fail
  refine (bytes7_any o l 1 true a len cap w (by unfold maxLen; omega)).mono ?_
  rintro e w' ⟨⟨x, rfl⟩, rfl⟩
  cases x
  · go_wp2
    go_ret
    exact ⟨rfl, bl0⟩
  go_wp2_with fail
  go_loopw [11, 12, 13, 14, 15] (fun xo xl xc xk xi wr => ∃ q : Nat, q ≤ len ∧ xi = .int .i64 q ∧ xo = .int .i64 (Of z o q) ∧ xl = .int .i64 (Lf z true l q) ∧ xc = .int .i64 (Cf z true 1 q) ∧ xk = .bool (Kf z true q) ∧ Below w.heap.size w wr)
    (fun _ _ _ _ xi _ => len - (intOf xi).toNat)
  case atStart => exact ⟨0, Nat.zero_le _, rfl, rfl, rfl, rfl, rfl, bl0⟩
  case round =>
    obtain ⟨q, hq, rfl, rfl, rfl, rfl, rfl, hnx⟩ := hrel
    have hz1 := hz.keep hnx
    clear bl0
    by_cases hlt : q < len
    · have hi := fun w' => hz1.idx q w' hlt
      have hcl := hz1.cell q hlt
      have HO : Hid (Of z o (q + 1) = wrap64 (Of z o q + rl (z q))) := rfl
      have HL : Hid (Lf z true l (q + 1) = aL (Kf z true q) (z q) (Lf z true l q)) := rfl
      have HC : Hid (Cf z true 1 (q + 1) = aC (Kf z true q) (z q) (Cf z true 1 q)) := rfl
      have HK : Hid (Kf z true (q + 1) = (z q == 13)) := rfl
      clear hz hz1
      generalize Of z o q = vo at *
      generalize Lf z true l q = vl at *
      generalize Cf z true 1 q = vc at *
      generalize Kf z true q = vk at *
      generalize z q = r at *
      go_wp2_with fail
      go_region_with (first | (go_at_call 9; refine (runelen_any r _).mono ?_; rintro e w' ⟨rfl, rfl⟩) | (go_at_call 8; refine (adv_any vo vl vc (rl r) r vk _).mono ?_; rintro e w1 ⟨rfl, bl1⟩))
      all_goals
        have hn2 : Below w.heap.size w w1 := hnx.drew.trans (bl1.mono (by exact hnx.size))
        clear bl1 hnx hi hcl
        go_wp2
        go_roundw
        case rel => exact ⟨q + 1, by omega, by go_num, by rw [HO.out], by rw [HL.out], by rw [HC.out], by rw [HK.out], hn2⟩
        case measure => simp [intOf]; omega
    · obtain ⟨vo, hvo⟩ : ∃ vo, vo = Of z o q := ⟨_, rfl⟩
      obtain ⟨vl, hvl⟩ : ∃ vl, vl = Lf z true l q := ⟨_, rfl⟩
      obtain ⟨vc, hvc⟩ : ∃ vc, vc = Cf z true 1 q := ⟨_, rfl⟩
      obtain ⟨vk, hvk⟩ : ∃ vk, vk = Kf z true q := ⟨_, rfl⟩
      rw [← hvo, ← hvl, ← hvc, ← hvk]
      have hql : q = len := by omega
      rw [hql] at hvo hvl hvc hvk
      rw [Lf_eq z true l hl0 hl1] at hvl
      rw [Cf_eq z true 1 (by decide) (by decide) (fun _ => rfl) len hbig] at hvc
      have VO : Hid (vo = Of z o len) := hvo
      have VL : Hid (vl = wrap64 (l + En z true len)) := hvl
      have VC : Hid (vc = if 0 ≤ La z len then (len : Int) - La z len else wrap64 (1 + len)) := hvc
      have VK : Hid (vk = Kf z true len) := hvk
      clear hvo hvl hvc hvk hql hz
      go_wp2_with fail
      go_loopw [16, 17, 18, 19] (fun xw xe xla xi wc => ∃ p : Nat, p ≤ len ∧ xi = .int .i64 p ∧ xw = .int .i64 (Of z o p) ∧ xe = .int .i64 (En z true p) ∧ xla = .int .i64 (La z p) ∧ Below wr.heap.size wr wc)
        (fun _ _ _ xi _ => len - (intOf xi).toNat)
      case atStart => exact ⟨0, Nat.zero_le _, rfl, rfl, rfl, rfl, Below.refl _ _⟩
      case round =>
        rename World => wc
        obtain ⟨p, hp, rfl, rfl, rfl, rfl, hn3⟩ := hrel
        have hz3 := hz1.keep hn3
        have eb := En_bd z true p
        have lb := La_bd z p
        by_cases hlp : p < len
        · have hi := fun w' => hz3.idx p w' hlp
          have hcl := hz3.cell p hlp
          by_cases h13 : z p = 13
          · have e13 : (z p == 13) = true := beq_iff_eq.2 h13
            have e10 : (z p == 10) = false := beq_eq_false_iff_ne.2 (by omega)
            have HE : Hid (En z true (p + 1) = En z true p + 1) := En_13 h13
            have HA : Hid (La z (p + 1) = (p : Int)) := La_t z p (.inl h13)
            clear h13
            by_cases hp0 : 0 < p
            · have hij := idx_pred hz3 hp0 hlp
              have hcj := hz3.cell (p - 1) (by omega)
              clear hz1 hz3
              go_wp2_with (go_at_call 9; refine (runelen_any _ _).mono ?_; rintro e w' ⟨rfl, rfl⟩)
              go_roundw
              case rel => exact ⟨p + 1, by omega, by go_num, rfl, by rw [HE.out], by rw [HA.out], hn3⟩
              case measure => simp [intOf]; omega
            · clear hz1 hz3
              go_wp2_with (go_at_call 9; refine (runelen_any _ _).mono ?_; rintro e w' ⟨rfl, rfl⟩)
              go_roundw
              case rel => exact ⟨p + 1, by omega, by go_num, rfl, by rw [HE.out], by rw [HA.out], hn3⟩
              case measure => simp [intOf]; omega
          · by_cases h10 : z p = 10
            · have e10 : (z p == 10) = true := beq_iff_eq.2 h10
              have e13 : (z p == 13) = false := beq_eq_false_iff_ne.2 h13
              have HA : Hid (La z (p + 1) = (p : Int)) := La_t z p (.inr h10)
              by_cases hp0 : 0 < p
              · have hij := idx_pred hz3 hp0 hlp
                have hcj := hz3.cell (p - 1) (by omega)
                have hkp := Kf_pos z true hp0
                cases hk : (z (p - 1) == 13)
                · have HE : Hid (En z true (p + 1) = En z true p + 1) := En_10f h10 (hkp.trans hk)
                  clear h10 h13 hkp hz1 hz3
                  go_wp2_with (go_at_call 9; refine (runelen_any _ _).mono ?_; rintro e w' ⟨rfl, rfl⟩)
                  go_roundw
                  case rel => exact ⟨p + 1, by omega, by go_num, rfl, by rw [HE.out], by rw [HA.out], hn3⟩
                  case measure => simp [intOf]; omega
                · have HE : Hid (En z true (p + 1) = En z true p) := En_10t h10 (hkp.trans hk)
                  clear h10 h13 hkp hz1 hz3
                  go_wp2_with (go_at_call 9; refine (runelen_any _ _).mono ?_; rintro e w' ⟨rfl, rfl⟩)
                  go_roundw
                  case rel => exact ⟨p + 1, by omega, by go_num, rfl, by rw [HE.out], by rw [HA.out], hn3⟩
                  case measure => simp [intOf]; omega
              · have HE : Hid (En z true (p + 1) = En z true p) := En_10t h10 (Kf_nought z true hp0)
                clear h10 h13 hz1 hz3
                go_wp2_with (go_at_call 9; refine (runelen_any _ _).mono ?_; rintro e w' ⟨rfl, rfl⟩)
                go_roundw
                case rel => exact ⟨p + 1, by omega, by go_num, rfl, by rw [HE.out], by rw [HA.out], hn3⟩
                case measure => simp [intOf]; omega
            · have e10 : (z p == 10) = false := beq_eq_false_iff_ne.2 h10
              have e13 : (z p == 13) = false := beq_eq_false_iff_ne.2 h13
              have HE : Hid (En z true (p + 1) = En z true p) := En_other h13 h10
              have HA : Hid (La z (p + 1) = La z p) := La_f z p (by omega)
              clear h10 h13 hz1 hz3
              go_wp2_with (go_at_call 9; refine (runelen_any _ _).mono ?_; rintro e w' ⟨rfl, rfl⟩)
              go_roundw
              case rel => exact ⟨p + 1, by omega, by go_num, rfl, by rw [HE.out], by rw [HA.out], hn3⟩
              case measure => simp [intOf]; omega
        · have hpl : p = len := by omega
          rw [hpl] at eb lb
          have el2 := VL.out
          rw [hpl, VO.out, VL.out, VC.out, VK.out]
          clear VO VL VC VK el2
          by_cases hla : 0 ≤ La z len
          · rw [if_pos hla]
            by_cases hn0 : 0 < len
            · have hij := idx_last hz3 hn0
              have hcj := hz3.cell (len - 1) (by omega)
              rw [Kf_pos z true hn0]
              clear hz1 hz3
              go_wp2
              go_ret
              exact ⟨rfl, hnx.trans (hn3.mono hnx.size)⟩
            · omega
          · rw [if_neg hla]
            by_cases hn0 : 0 < len
            · have hij := idx_last hz3 hn0
              have hcj := hz3.cell (len - 1) (by omega)
              rw [Kf_pos z true hn0, wrap_id (x := 1 + (len : Int)) (by omega) (by omega)]
              clear hz1 hz3
              go_wp2
              go_ret
              exact ⟨rfl, hnx.trans (hn3.mono hnx.size)⟩
            · rw [Kf_nought z true hn0, wrap_id (x := l + En z true len) (by omega) (by omega), wrap_id (x := 1 + (len : Int)) (by omega) (by omega)]
              clear hz1 hz3
              go_wp2
              go_ret
              exact ⟨rfl, hnx.trans (hn3.mono hnx.size)⟩

set_option maxRecDepth 100000 in
set_option maxHeartbeats 1000000 in
theorem law7_walk (o l c : Int) (cr : Bool) (a : Option Addr) (len cap b off : Nat) (z : Nat → Int) (w : World) (hz : RL w a len cap b off z) (hm : len ≤ maxLen)
    (hl0 : -9223372036854775808 ≤ l) (hl1 : l ≤ 9223372036854775807) (hc0 : -9223372036854775808 ≤ c) (hc1 : c ≤ 9223372036854775807) :
    Calls Try.prog 4 #[.int .i64 o, .int .i64 l, .int .i64 c, .bool cr, .slice a len cap] w fun e w' => e = .returned (.bool true) ∧ Below w.heap.size w w' := by
  by_cases hbig : len ≤ 65536
  · cases cr
    · exact law7_f o l c a len cap b off z w hz hbig hl0 hl1 hc0 hc1
    · by_cases hc : c = 1
      · subst hc
        exact law7_t o l a len cap b off z w hz hbig hl0 hl1
      · have nb : (c != 1) = true := bne_iff_ne.2 hc
        clear hz
        go_enter Try.func4, Try.ntmps4
        go_wp2_with fail
        refine (bytes7_any o l c true a len cap w hm).mono ?_
        rintro e w' ⟨⟨x, rfl⟩, rfl⟩
        cases x
        · go_wp2
          go_ret
          exact ⟨rfl, Below.refl _ _⟩
        · go_wp2
          go_ret
          exact ⟨rfl, Below.refl _ _⟩
  · clear hz
    go_enter Try.func4, Try.ntmps4
    go_wp2_with fail
    refine (bytes7_any o l c cr a len cap w hm).mono ?_
    rintro e w' ⟨⟨x, rfl⟩, rfl⟩
    cases x
    · go_wp2
      go_ret
      exact ⟨rfl, Below.refl _ _⟩
    · go_wp2
      go_ret
      exact ⟨rfl, Below.refl _ _⟩

end Go.Proofs.Qxb6612472a
