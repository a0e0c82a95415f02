import Derived.Test.Qxb6612378aCR
namespace Go.Proofs.Qxb6612378a
open Go.RowKit Go.WideMaps Go.Maps

theorem SL.keep {w w' : World} {a : Option Addr} {len cap b off : Nat} {ss : List ByteArray} (h : SL w a len cap b off ss) (hb : Below w.heap.size w w') : SL w' a len cap b off ss :=
  ⟨h.size, h.addr, fun k hk => (hb.cell (p := ⟨b, off + k, none⟩) (h.old (by omega))).trans (h.cell k hk), fun h0 => Nat.lt_of_lt_of_le (h.old h0) hb.size, h.small⟩

theorem own_below {w w' : World} {b n : Nat} {D : DataW Value} (h : w.ownsMap Try.prog 9 anyElem b n D) (hb : Below w.heap.size w w') : w'.ownsMap Try.prog 9 anyElem b n D := by
  have hlt := h.lt
  obtain ⟨es, clock, hh, r⟩ := h
  exact ⟨es, clock, (hb.block b hlt).trans hh, r⟩

theorem look_own {w : World} {b n : Nat} {D : DataW Value} (h : w.ownsMap Try.prog 9 anyElem b n D) (v : Value) (hat : D.atKey (keyL res) (.held .nilIface) = .held v) :
    (Instr.lookup 30 (.map (some b)) (.string res) false).run Try.prog w = .ok v w := by
  obtain ⟨v', ps, hrun, hv⟩ := h.lookup law9 Try.underlying30 (zero20 w) (zd := .held .nilIface) (zp := []) rfl (keyL_ok res (by decide))
  have e : DataW.held v' = .held v := by
    have := congrArg (fun o => o.map Prod.fst) hv
    simp only [anyElem, Option.map_some, Option.some.injEq] at this
    rw [this]; exact hat
  cases e
  exact hrun

theorem updV {w : World} {b n : Nat} {D : DataW Value} (h : w.ownsMap Try.prog 9 anyElem b n D) (hn : n < maxLen) (v : Value) :
    ∃ w', (Instr.mapUpdate 30 (.map (some b)) (.string res) v).run Try.prog w = .ok () w' ∧ w'.ownsMap Try.prog 9 anyElem b (n + 1) (D.put (keyL res) (.held v)) ∧ w.grownBy w' (some b) :=
  h.update (t := 30) (e := 20) law9 Try.underlying30 hn (keyL_ok res (by decide)) (val := v) (d := .held v) (ps := []) rfl

theorem ta30_nil (w : World) : (Instr.typeAssert .nilIface 20 30 true).run Try.prog w = .ok (.tuple #[.map none, .bool false]) w := by kernel_rfl
theorem ta30_str (s : ByteArray) (w : World) : (Instr.typeAssert (.iface 9 (.string s)) 20 30 true).run Try.prog w = .ok (.tuple #[.map none, .bool false]) w := by kernel_rfl
theorem ta30_map (r : Option Nat) (w : World) : (Instr.typeAssert (.iface 30 (.map r)) 20 30 true).run Try.prog w = .ok (.tuple #[.map r, .bool true]) w := by kernel_rfl
theorem ta30_ifc (y : Option ByteArray) (w : World) : (Instr.typeAssert (ifc y) 20 30 true).run Try.prog w = .ok (.tuple #[.map none, .bool false]) w := by
  cases y
  · exact ta30_nil w
  · exact ta30_str _ w
theorem ta9_nil (w : World) : (Instr.typeAssert .nilIface 20 9 true).run Try.prog w = .ok (.tuple #[.string ⟨#[]⟩, .bool false]) w := by kernel_rfl
theorem ta9_str (s : ByteArray) (w : World) : (Instr.typeAssert (.iface 9 (.string s)) 20 9 true).run Try.prog w = .ok (.tuple #[.string s, .bool true]) w := by kernel_rfl
theorem ta9_ifc (y : Option ByteArray) (w : World) : (Instr.typeAssert (ifc y) 20 9 true).run Try.prog w = .ok (.tuple #[.string (txt y), .bool y.isSome]) w := by
  cases y
  · exact ta9_nil w
  · exact ta9_str _ w

def cnt (yl yr : Option ByteArray) : Int := (if yl.isSome then 1 else 0) + (if yr.isSome then 1 else 0)

theorem lim_ne_req : keyL lim ≠ keyL req := fun h => by
  have := congrArg (fun l => match l with | Lit.string s => s.length | _ => 0) h
  simp [keyL, lim, req] at this
theorem req_ne_lim : keyL req ≠ keyL lim := fun h => lim_ne_req h.symm

theorem strV_nil (y : Option ByteArray) : strV y (.held .nilIface) = .held (ifc y) := by cases y <;> rfl

theorem putO_isMap {D : DataW Value} (h : IsMap D) (key : ByteArray) (y : Option ByteArray) : IsMap (putO D key y) := by
  cases y
  · exact h
  · exact h.put _ _
theorem putO_tidy {D : DataW Value} (h : Tidy D) (key : ByteArray) (y : Option ByteArray) : Tidy (putO D key y) := by
  cases y
  · exact h
  · exact h.put (keyL_isKey _) _

theorem Gd_lim (yl yr : Option ByteArray) : (Gd yl yr).atKey (keyL lim) (.held .nilIface) = .held (ifc yl) := by
  unfold Gd
  have e : (putO (putO (.map []) lim yl) req yr).atKey (keyL lim) (.held .nilIface) = (putO (.map []) lim yl).atKey (keyL lim) (.held .nilIface) := by
    cases yr
    · rfl
    · exact atKey_put_other lim_ne_req _ _
  rw [e]
  cases yl
  · rfl
  · exact atKey_put_same isMap_empty (keyL_isKey _) _ _
theorem Gd_req (yl yr : Option ByteArray) : (Gd yl yr).atKey (keyL req) (.held .nilIface) = .held (ifc yr) := by
  unfold Gd
  cases yr
  · cases yl
    · rfl
    · exact (atKey_put_other (D := .map []) req_ne_lim _ _).trans rfl
  · exact atKey_put_same (putO_isMap isMap_empty lim yl) (keyL_isKey _) _ _
theorem Gd_hlim (yl yr : Option ByteArray) : Maps.has (Gd yl yr) (keyL lim) = yl.isSome := by
  unfold Gd
  have e : Maps.has (putO (putO (.map []) lim yl) req yr) (keyL lim) = Maps.has (putO (.map []) lim yl) (keyL lim) := by
    cases yr
    · rfl
    · exact has_put_other lim_ne_req _
  rw [e]
  cases yl
  · rfl
  · exact has_put_same isMap_empty (keyL_isKey _) _
theorem Gd_hreq (yl yr : Option ByteArray) : Maps.has (Gd yl yr) (keyL req) = yr.isSome := by
  unfold Gd
  cases yr
  · cases yl
    · rfl
    · exact (has_put_other (D := .map []) req_ne_lim _).trans rfl
  · exact has_put_same (putO_isMap isMap_empty lim yl) (keyL_isKey _) _
theorem Gd_size (yl yr : Option ByteArray) : ((Maps.size (Gd yl yr) : Nat) : Int) = cnt yl yr := by
  cases yl <;> cases yr <;> rfl

/-- What the whole call comes to. -/
def zzOut (yl yr : Option ByteArray) : Value := .tuple #[.int .i64 (cnt yl yr), .string (txt yl), .bool yl.isSome, .string (txt yr), .bool yr.isSome]

set_option maxHeartbeats 400000 in
theorem zz_1 (l1 c1 : Nat) (v2 : Value) (v3 v4 : Value) (w : World) :
    Calls Try.prog 8 #[.slice none l1 c1, v2, .bool false, v3, v4] w fun e w' => e = .returned (zzOut none none) ∧ Below w.heap.size w w' := by
  have q2 := fun (w : World) (r : Option Nat) => run_eql_map_nil (P := Try.prog) w 30 9 20 r Try.underlying30
  have hmm := @run_makeMap Try.prog
  have t9 := ta9_ifc
  go_enter Try.func8, Try.ntmps8
  go_wp2_with fail
  refine (pairs_nil _ _ _ _).mono ?_
  rintro e w1 ⟨rfl, rfl⟩
  go_wp2_with fail
  refine (cr_any _ _ none false none none w1 (Maps.look_nil (P := Try.prog) (k := 9) false law9 Try.underlying30 (zero20 w1) (keyL_ok res (by decide))) ta30_nil (fun w' _ => lk_nil w' lim (by decide)) (fun w' _ => lk_nil w' req (by decide))).mono ?_
  rintro e w4 ⟨rfl, own4, bl4⟩
  have hlL := lk_own own4 lim (by decide) none (Gd_lim _ _) (Gd_hlim _ _)
  have hlR := lk_own own4 req (by decide) none (Gd_req _ _) (Gd_hreq _ _)
  have hsz : Hid (((Maps.size (Gd none none) : Nat) : Int) = cnt none none) := Gd_size _ _
  have fin : Below w1.heap.size w1 w4 := bl4
  clear q2 hmm
  simp only [Lk, lim, req] at hlL hlR
  go_wp2_with (at_len; refine wpList_len_own _ rfl _ 30 rfl 9 20 Try.underlying30 _ _ 2 _ rfl own4 ?_)
  refine bodyPost_ret (v := .tuple #[.int .i64 (Maps.size (Gd none none)), .string (txt none), .bool (none : Option ByteArray).isSome, .string (txt none), .bool (none : Option ByteArray).isSome]) (by simp [results, Try.results8, go_sem]) rfl ⟨?_, fin⟩
  rw [hsz.out]; rfl

set_option maxHeartbeats 400000 in
theorem zz_2 (p1 : Addr) (a2 : Option Addr) (l1 l2 c1 c2 b1 b2 o1 o2 : Nat) (s1 s2 : List ByteArray) (v3 v4 : Value) (w : World)
    (h1 : SL w (some p1) l1 c1 b1 o1 s1) (h2 : SL w a2 l2 c2 b2 o2 s2) (m1 : l1 ≤ 1048576) (m2 : l2 ≤ 1048576) :
    Calls Try.prog 8 #[.slice (some p1) l1 c1, .slice a2 l2 c2, .bool false, v3, v4] w fun e w' => e = .returned (zzOut none none) ∧ Below w.heap.size w w' := by
  have q2 := fun (w : World) (r : Option Nat) => run_eql_map_nil (P := Try.prog) w 30 9 20 r Try.underlying30
  have hmm := @run_makeMap Try.prog
  have t9 := ta9_ifc
  go_enter Try.func8, Try.ntmps8
  go_wp2_with fail
  refine (pairs_some _ _ _ _ _ _ _ _ _ _ _ _ _ h1 h2 m1 m2).mono ?_
  rintro e w1 ⟨rfl, own1, bl1⟩
  go_wp2_with fail
  refine (cr_any _ _ none false none none w1 (look_own own1 _ ((Pd_atKey res s1 s2 _ _).trans (strV_nil _))) (ta30_ifc _) (fun w' _ => lk_nil w' lim (by decide)) (fun w' _ => lk_nil w' req (by decide))).mono ?_
  rintro e w4 ⟨rfl, own4, bl4⟩
  have hlL := lk_own own4 lim (by decide) none (Gd_lim _ _) (Gd_hlim _ _)
  have hlR := lk_own own4 req (by decide) none (Gd_req _ _) (Gd_hreq _ _)
  have hsz : Hid (((Maps.size (Gd none none) : Nat) : Int) = cnt none none) := Gd_size _ _
  have fin : Below w.heap.size w w4 := bl1.trans (bl4.mono bl1.size)
  clear q2 hmm own1 h1 h2
  simp only [Lk, lim, req] at hlL hlR
  go_wp2_with (at_len; refine wpList_len_own _ rfl _ 30 rfl 9 20 Try.underlying30 _ _ 2 _ rfl own4 ?_)
  refine bodyPost_ret (v := .tuple #[.int .i64 (Maps.size (Gd none none)), .string (txt none), .bool (none : Option ByteArray).isSome, .string (txt none), .bool (none : Option ByteArray).isSome]) (by simp [results, Try.results8, go_sem]) rfl ⟨?_, fin⟩
  rw [hsz.out]; rfl

set_option maxHeartbeats 400000 in
theorem zz_3 (l1 c1 : Nat) (v2 : Value) (l3 c3 : Nat) (v4 : Value) (w : World) :
    Calls Try.prog 8 #[.slice none l1 c1, v2, .bool true, .slice none l3 c3, v4] w fun e w' => e = .returned (zzOut none none) ∧ Below w.heap.size w w' := by
  have q2 := fun (w : World) (r : Option Nat) => run_eql_map_nil (P := Try.prog) w 30 9 20 r Try.underlying30
  have hmm := @run_makeMap Try.prog
  have t9 := ta9_ifc
  go_enter Try.func8, Try.ntmps8
  go_wp2_with fail
  refine (pairs_nil _ _ _ _).mono ?_
  rintro e w0 ⟨rfl, hw0⟩
  rw [hw0]
  clear hw0 w0
  obtain ⟨w1, hw1⟩ : ∃ w1, w1 = w.alloc (.map #[] 0) := ⟨_, rfl⟩
  have own1 : w1.ownsMap Try.prog 9 anyElem w.heap.size 0 (.map []) := by rw [hw1]; exact World.ownsMap_made _ _ _ _
  have bl1 : Below w.heap.size w w1 := by rw [hw1]; exact (Below.refl _ _).alloc (Nat.le_refl _) _
  have hm1 : (Instr.makeMap 30 none).run Try.prog w = .ok (.map (some w.heap.size)) w1 := by rw [hw1]; exact hmm _ _
  clear hmm hw1
  go_wp2_with fail
  refine (pairs_nil _ _ _ _).mono ?_
  rintro e w2 ⟨rfl, rfl⟩
  obtain ⟨w3, hrun3, own3, g3⟩ := updV own1 (by unfold maxLen; omega) (.iface 30 (.map none))
  have bl3 : Below w.heap.size w w3 := bl1.grown g3 bl1.size (fun j hj => by cases hj; exact Nat.le_refl _)
  have hcl := look_own own3 _ (atKey_put_same own1.isMap (keyL_isKey _) _ _)
  simp only [res] at hrun3
  go_wp2_with fail
  refine (cr_any _ _ none true none none w3 hcl (ta30_map _) (fun w' _ => lk_nil w' lim (by decide)) (fun w' _ => lk_nil w' req (by decide))).mono ?_
  rintro e w4 ⟨rfl, own4, bl4⟩
  have hlL := lk_own own4 lim (by decide) none (Gd_lim _ _) (Gd_hlim _ _)
  have hlR := lk_own own4 req (by decide) none (Gd_req _ _) (Gd_hreq _ _)
  have hsz : Hid (((Maps.size (Gd none none) : Nat) : Int) = cnt none none) := Gd_size _ _
  have fin : Below w.heap.size w w4 := bl3.trans (bl4.mono bl3.size)
  clear q2 own1 own3 hrun3 hcl hm1
  simp only [Lk, lim, req] at hlL hlR
  go_wp2_with (at_len; refine wpList_len_own _ rfl _ 30 rfl 9 20 Try.underlying30 _ _ 2 _ rfl own4 ?_)
  refine bodyPost_ret (v := .tuple #[.int .i64 (Maps.size (Gd none none)), .string (txt none), .bool (none : Option ByteArray).isSome, .string (txt none), .bool (none : Option ByteArray).isSome]) (by simp [results, Try.results8, go_sem]) rfl ⟨?_, fin⟩
  rw [hsz.out]; rfl

set_option maxHeartbeats 400000 in
theorem zz_4 (l1 c1 : Nat) (v2 : Value) (p3 : Addr) (a4 : Option Addr) (l3 l4 c3 c4 b3 b4 o3 o4 : Nat) (s3 s4 : List ByteArray) (w : World) (h3 : SL w (some p3) l3 c3 b3 o3 s3) (h4 : SL w a4 l4 c4 b4 o4 s4) (m3 : l3 ≤ 1048576) (m4 : l4 ≤ 1048576) :
    Calls Try.prog 8 #[.slice none l1 c1, v2, .bool true, .slice (some p3) l3 c3, .slice a4 l4 c4] w fun e w' => e = .returned (zzOut (Rm lim s3 s4 (min l3 l4)) (Rm req s3 s4 (min l3 l4))) ∧ Below w.heap.size w w' := by
  have q2 := fun (w : World) (r : Option Nat) => run_eql_map_nil (P := Try.prog) w 30 9 20 r Try.underlying30
  have hmm := @run_makeMap Try.prog
  have t9 := ta9_ifc
  obtain ⟨yl, hyl⟩ : ∃ yl, yl = Rm lim s3 s4 (min l3 l4) := ⟨_, rfl⟩
  obtain ⟨yr, hyr⟩ : ∃ yr, yr = Rm req s3 s4 (min l3 l4) := ⟨_, rfl⟩
  rw [← hyl, ← hyr]
  have HL : Hid (yl = Rm lim s3 s4 (min l3 l4)) := hyl
  have HR : Hid (yr = Rm req s3 s4 (min l3 l4)) := hyr
  clear hyl hyr
  go_enter Try.func8, Try.ntmps8
  go_wp2_with fail
  refine (pairs_nil _ _ _ _).mono ?_
  rintro e w0 ⟨rfl, hw0⟩
  rw [hw0]
  clear hw0 w0
  obtain ⟨w1, hw1⟩ : ∃ w1, w1 = w.alloc (.map #[] 0) := ⟨_, rfl⟩
  have own1 : w1.ownsMap Try.prog 9 anyElem w.heap.size 0 (.map []) := by rw [hw1]; exact World.ownsMap_made _ _ _ _
  have bl1 : Below w.heap.size w w1 := by rw [hw1]; exact (Below.refl _ _).alloc (Nat.le_refl _) _
  have hm1 : (Instr.makeMap 30 none).run Try.prog w = .ok (.map (some w.heap.size)) w1 := by rw [hw1]; exact hmm _ _
  clear hmm hw1
  go_wp2_with fail
  refine (pairs_some _ _ _ _ _ _ _ _ _ _ _ _ _ (h3.keep bl1) (h4.keep bl1) m3 m4).mono ?_
  rintro e w2 ⟨rfl, own2, bl2⟩
  obtain ⟨w3, hrun3, own3, g3⟩ := updV (own_below own1 bl2) (by unfold maxLen; omega) (.iface 30 (.map (some w1.heap.size)))
  have bl3 : Below w.heap.size w w3 := (bl1.trans (bl2.mono bl1.size)).grown g3 (Nat.le_trans bl1.size bl2.size) (fun j hj => by cases hj; exact Nat.le_refl _)
  have own2' := own2.kept g3 (by simp; have := own1.lt; omega)
  have hcl := look_own own3 _ (atKey_put_same own1.isMap (keyL_isKey _) _ _)
  simp only [res] at hrun3
  go_wp2_with fail
  refine (cr_any _ _ (some w1.heap.size) true yl yr w3 hcl (ta30_map _) (fun w' hb => lk_own (own_below own2' hb) lim (by decide) yl (by rw [Pd_atKey, ← HL.out]; exact strV_nil _) (by rw [Pd_has, ← HL.out])) (fun w' hb => lk_own (own_below own2' hb) req (by decide) yr (by rw [Pd_atKey, ← HR.out]; exact strV_nil _) (by rw [Pd_has, ← HR.out]))).mono ?_
  rintro e w4 ⟨rfl, own4, bl4⟩
  have hlL := lk_own own4 lim (by decide) yl (Gd_lim _ _) (Gd_hlim _ _)
  have hlR := lk_own own4 req (by decide) yr (Gd_req _ _) (Gd_hreq _ _)
  have hsz : Hid (((Maps.size (Gd yl yr) : Nat) : Int) = cnt yl yr) := Gd_size _ _
  have fin : Below w.heap.size w w4 := bl3.trans (bl4.mono bl3.size)
  clear HL HR q2 own1 own2 own2' own3 hrun3 hcl h3 h4 hm1
  simp only [Lk, lim, req] at hlL hlR
  go_wp2_with (at_len; refine wpList_len_own _ rfl _ 30 rfl 9 20 Try.underlying30 _ _ 2 _ rfl own4 ?_)
  refine bodyPost_ret (v := .tuple #[.int .i64 (Maps.size (Gd yl yr)), .string (txt yl), .bool yl.isSome, .string (txt yr), .bool yr.isSome]) (by simp [results, Try.results8, go_sem]) rfl ⟨?_, fin⟩
  rw [hsz.out]; rfl

set_option maxHeartbeats 400000 in
theorem zz_5 (p1 : Addr) (a2 : Option Addr) (l1 l2 c1 c2 b1 b2 o1 o2 : Nat) (s1 s2 : List ByteArray) (l3 c3 : Nat) (v4 : Value) (w : World) (h1 : SL w (some p1) l1 c1 b1 o1 s1) (h2 : SL w a2 l2 c2 b2 o2 s2) (m1 : l1 ≤ 1048576) (m2 : l2 ≤ 1048576) :
    Calls Try.prog 8 #[.slice (some p1) l1 c1, .slice a2 l2 c2, .bool true, .slice none l3 c3, v4] w fun e w' => e = .returned (zzOut none none) ∧ Below w.heap.size w w' := by
  have q2 := fun (w : World) (r : Option Nat) => run_eql_map_nil (P := Try.prog) w 30 9 20 r Try.underlying30
  have hmm := @run_makeMap Try.prog
  have t9 := ta9_ifc
  go_enter Try.func8, Try.ntmps8
  go_wp2_with fail
  refine (pairs_some _ _ _ _ _ _ _ _ _ _ _ _ _ h1 h2 m1 m2).mono ?_
  rintro e w1 ⟨rfl, own1, bl1⟩
  go_wp2_with fail
  refine (pairs_nil _ _ _ _).mono ?_
  rintro e w2 ⟨rfl, rfl⟩
  obtain ⟨w3, hrun3, own3, g3⟩ := updV own1 (by unfold maxLen; omega) (.iface 30 (.map none))
  have bl3 : Below w.heap.size w w3 := bl1.grown g3 bl1.size (fun j hj => by cases hj; exact Nat.le_refl _)
  have hcl := look_own own3 _ (atKey_put_same own1.isMap (keyL_isKey _) _ _)
  simp only [res] at hrun3
  go_wp2_with fail
  refine (cr_any _ _ none true none none w3 hcl (ta30_map _) (fun w' _ => lk_nil w' lim (by decide)) (fun w' _ => lk_nil w' req (by decide))).mono ?_
  rintro e w4 ⟨rfl, own4, bl4⟩
  have hlL := lk_own own4 lim (by decide) none (Gd_lim _ _) (Gd_hlim _ _)
  have hlR := lk_own own4 req (by decide) none (Gd_req _ _) (Gd_hreq _ _)
  have hsz : Hid (((Maps.size (Gd none none) : Nat) : Int) = cnt none none) := Gd_size _ _
  have fin : Below w.heap.size w w4 := bl3.trans (bl4.mono bl3.size)
  clear q2 own1 own3 hrun3 hcl h1 h2 hmm
  simp only [Lk, lim, req] at hlL hlR
  go_wp2_with (at_len; refine wpList_len_own _ rfl _ 30 rfl 9 20 Try.underlying30 _ _ 2 _ rfl own4 ?_)
  refine bodyPost_ret (v := .tuple #[.int .i64 (Maps.size (Gd none none)), .string (txt none), .bool (none : Option ByteArray).isSome, .string (txt none), .bool (none : Option ByteArray).isSome]) (by simp [results, Try.results8, go_sem]) rfl ⟨?_, fin⟩
  rw [hsz.out]; rfl

set_option maxHeartbeats 400000 in
theorem zz_6 (p1 : Addr) (a2 : Option Addr) (l1 l2 c1 c2 b1 b2 o1 o2 : Nat) (s1 s2 : List ByteArray) (p3 : Addr) (a4 : Option Addr) (l3 l4 c3 c4 b3 b4 o3 o4 : Nat) (s3 s4 : List ByteArray) (w : World) (h1 : SL w (some p1) l1 c1 b1 o1 s1) (h2 : SL w a2 l2 c2 b2 o2 s2) (m1 : l1 ≤ 1048576) (m2 : l2 ≤ 1048576) (h3 : SL w (some p3) l3 c3 b3 o3 s3) (h4 : SL w a4 l4 c4 b4 o4 s4) (m3 : l3 ≤ 1048576) (m4 : l4 ≤ 1048576) :
    Calls Try.prog 8 #[.slice (some p1) l1 c1, .slice a2 l2 c2, .bool true, .slice (some p3) l3 c3, .slice a4 l4 c4] w fun e w' => e = .returned (zzOut (Rm lim s3 s4 (min l3 l4)) (Rm req s3 s4 (min l3 l4))) ∧ Below w.heap.size w w' := by
  have q2 := fun (w : World) (r : Option Nat) => run_eql_map_nil (P := Try.prog) w 30 9 20 r Try.underlying30
  have hmm := @run_makeMap Try.prog
  have t9 := ta9_ifc
  obtain ⟨yl, hyl⟩ : ∃ yl, yl = Rm lim s3 s4 (min l3 l4) := ⟨_, rfl⟩
  obtain ⟨yr, hyr⟩ : ∃ yr, yr = Rm req s3 s4 (min l3 l4) := ⟨_, rfl⟩
  rw [← hyl, ← hyr]
  have HL : Hid (yl = Rm lim s3 s4 (min l3 l4)) := hyl
  have HR : Hid (yr = Rm req s3 s4 (min l3 l4)) := hyr
  clear hyl hyr
  go_enter Try.func8, Try.ntmps8
  go_wp2_with fail
  refine (pairs_some _ _ _ _ _ _ _ _ _ _ _ _ _ h1 h2 m1 m2).mono ?_
  rintro e w1 ⟨rfl, own1, bl1⟩
  go_wp2_with fail
  refine (pairs_some _ _ _ _ _ _ _ _ _ _ _ _ _ (h3.keep bl1) (h4.keep bl1) m3 m4).mono ?_
  rintro e w2 ⟨rfl, own2, bl2⟩
  obtain ⟨w3, hrun3, own3, g3⟩ := updV (own_below own1 bl2) (by unfold maxLen; omega) (.iface 30 (.map (some w1.heap.size)))
  have bl3 : Below w.heap.size w w3 := (bl1.trans (bl2.mono bl1.size)).grown g3 (Nat.le_trans bl1.size bl2.size) (fun j hj => by cases hj; exact Nat.le_refl _)
  have own2' := own2.kept g3 (by simp; have := own1.lt; omega)
  have hcl := look_own own3 _ (atKey_put_same own1.isMap (keyL_isKey _) _ _)
  simp only [res] at hrun3
  go_wp2_with fail
  refine (cr_any _ _ (some w1.heap.size) true yl yr w3 hcl (ta30_map _) (fun w' hb => lk_own (own_below own2' hb) lim (by decide) yl (by rw [Pd_atKey, ← HL.out]; exact strV_nil _) (by rw [Pd_has, ← HL.out])) (fun w' hb => lk_own (own_below own2' hb) req (by decide) yr (by rw [Pd_atKey, ← HR.out]; exact strV_nil _) (by rw [Pd_has, ← HR.out]))).mono ?_
  rintro e w4 ⟨rfl, own4, bl4⟩
  have hlL := lk_own own4 lim (by decide) yl (Gd_lim _ _) (Gd_hlim _ _)
  have hlR := lk_own own4 req (by decide) yr (Gd_req _ _) (Gd_hreq _ _)
  have hsz : Hid (((Maps.size (Gd yl yr) : Nat) : Int) = cnt yl yr) := Gd_size _ _
  have fin : Below w.heap.size w w4 := bl3.trans (bl4.mono bl3.size)
  clear HL HR q2 own1 own2 own2' own3 hrun3 hcl h3 h4 h1 h2 hmm
  simp only [Lk, lim, req] at hlL hlR
  go_wp2_with (at_len; refine wpList_len_own _ rfl _ 30 rfl 9 20 Try.underlying30 _ _ 2 _ rfl own4 ?_)
  refine bodyPost_ret (v := .tuple #[.int .i64 (Maps.size (Gd yl yr)), .string (txt yl), .bool yl.isSome, .string (txt yr), .bool yr.isSome]) (by simp [results, Try.results8, go_sem]) rfl ⟨?_, fin⟩
  rw [hsz.out]; rfl

end Go.Proofs.Qxb6612378a
