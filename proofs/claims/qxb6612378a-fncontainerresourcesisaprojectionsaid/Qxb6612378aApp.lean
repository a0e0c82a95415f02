import Derived.Test.Qxb6612378aAll
import Derived.Maps.AppendAt
namespace Go.Proofs.Qxb6612378a
open Go.RowKit Go.WideMaps Go.Maps

/-- 'append(s, u)', s a slice of strings of the call's own; the world is the one behind the one-cell block that the translation lays for u. -/
theorem wpList_app1 {W : World} {ops : Array Oper} {rest : List Oper} {o : Oper} {a : Act} {Q : Exit → Act → World → Prop} (hgd : o.guard = none) (s x : Operand)
    (ho : o.op = .call { callee := .builtin .append, args := #[s, x], argTypes := #[22, 22] }) (v : Value) (n : Nat) (xs : List ByteArray) (u : ByteArray) (base : Nat)
    (hs : a.eval s = v) (hx : a.eval x = .slice (some ⟨W.heap.size, 0, none⟩) 1 1) (hown : W.ownsRow base 9 1 v n (xs.map Value.string)) (hn : n ≤ 10) (hbase : base ≤ W.heap.size)
    (h : ∀ v' w', w'.ownsRow base 9 1 v' (n + 1) ((xs ++ [u]).map Value.string) → W.grownBy w' v.ownBlock → (v'.ownBlock = v.ownBlock ∨ v'.ownBlock = some (W.heap.size + 1)) → wpList Try.prog ops Q rest (a.put o.dst v') w') :
    wpList Try.prog ops Q (o :: rest) a (W.alloc (.cells #[.string u] 9)) := by
  obtain ⟨i0, hi, hz0, hz1, hz2⟩ := info_parts info9
  refine wpList_append_own_at _ hgd s x 22 ho base 9 i0 _ 1 16 Try.underlying22 hi hz0 hz1 hz2 rfl (by decide) v n (xs.map Value.string) hs (hown.alloc _) ⟨W.heap.size, 0, none⟩ 1 1 [.string u] hx rfl (cell_one_new _ _ _) ?_ (by unfold maxLen; omega) (by omega) (by simp; omega) ?_
  · intro q hq
    simp at hq
    subst hq
    rfl
  · intro v' w' ho' hg _ hat
    refine h v' w' (by simpa using ho') ?_ (by simpa using hat)
    have g0 := World.grownBy_alloc W (.cells #[.string u] 9) v.ownBlock
    refine ⟨hg.os.trans g0.os, hg.tape.trans g0.tape, hg.output.trans g0.output, Nat.le_trans g0.size hg.size, fun k hk hne => (hg.block k (Nat.lt_of_lt_of_le hk g0.size) hne).trans (g0.block k hk hne)⟩

/-- Two rows of the call's own, apart. -/
structure Two (w : World) (base : Nat) (k v : Value) (n : Nat) (ks vs : List ByteArray) : Prop where
  K : w.ownsRow base 9 1 k n (ks.map Value.string)
  V : w.ownsRow base 9 1 v n (vs.map Value.string)
  apart : k.ownBlock = none ∨ k.ownBlock ≠ v.ownBlock

theorem two_nil (w : World) (base : Nat) : Two w base (.slice none 0 0) (.slice none 0 0) 0 [] [] :=
  ⟨World.ownsRow_nil _ _ _ _, World.ownsRow_nil _ _ _ _, .inl rfl⟩

/-- One more pair. -/
theorem Two.more {w w1 w2 : World} {base : Nat} {k v k1 v1 : Value} {n : Nat} {ks vs : List ByteArray} {x y : ByteArray} (h : Two w base k v n ks vs)
    (hk : w1.ownsRow base 9 1 k1 (n + 1) ((ks ++ [x]).map Value.string)) (_gk : w.grownBy w1 k.ownBlock) (lk : k1.ownBlock = k.ownBlock ∨ k1.ownBlock = some (w.heap.size + 1))
    (hv : w2.ownsRow base 9 1 v1 (n + 1) ((vs ++ [y]).map Value.string)) (gv : w1.grownBy w2 v.ownBlock) (lv : v1.ownBlock = v.ownBlock ∨ v1.ownBlock = some (w1.heap.size + 1)) :
    Two w2 base k1 v1 (n + 1) (ks ++ [x]) (vs ++ [y]) := by
  have hkv : k1.ownBlock = none ∨ k1.ownBlock ≠ v.ownBlock := by
    rcases lk with e | e
    · rw [e]; exact h.apart
    · refine .inr fun e2 => ?_
      have := (h.V.lt _ (e2.symm.trans e)).2
      omega
  refine ⟨hk.kept gv hkv, hv, ?_⟩
  rcases lv with e | e
  · rw [e]; exact hkv
  · refine .inr fun e2 => ?_
    have := (hk.lt _ (e2.trans e)).2
    omega

/-- V is still there when the first append is done. -/
theorem Two.between {w w1 : World} {base : Nat} {k v : Value} {n : Nat} {ks vs : List ByteArray} (h : Two w base k v n ks vs) (gk : w.grownBy w1 k.ownBlock) : w1.ownsRow base 9 1 v n (vs.map Value.string) := by
  refine h.V.kept gk ?_
  rcases h.apart with e | e
  · rw [e]
    cases v.ownBlock
    · exact .inl rfl
    · exact .inr (by simp)
  · exact .inr (Ne.symm e)

theorem grown_below {w0 w w' : World} {base n : Nat} {v : Value} {xs : List Value} (hb : Below base w0 w) (h : w.ownsRow base 9 1 v n xs) (hg : w.grownBy w' v.ownBlock) (hs : base ≤ w.heap.size) : Below base w0 w' :=
  hb.grown hg hs (fun k hk => (h.lt k hk).1)

theorem SL.of_own {w : World} {base n : Nat} {v : Value} {ss : List ByteArray} (h : w.ownsRow base 9 1 v n (ss.map Value.string)) (hs : ∀ s ∈ ss, s.size ≤ maxLen) :
    ∃ a cap b, v = .slice a n cap ∧ SL w a n cap b 0 ss := by
  obtain ⟨hlen, h2⟩ := h
  simp at hlen
  rcases h2 with ⟨rfl, rfl⟩ | ⟨g, cap, cur, rfl, _, hg, _, _, _, htake⟩
  · exact ⟨none, 0, 0, rfl, ⟨hlen, by omega, by omega, by omega, hs⟩⟩
  · refine ⟨_, cap, g, rfl, ⟨hlen, fun _ => rfl, fun k hk => ?_, fun _ => (Array.getElem?_eq_some_iff.1 hg).1, hs⟩⟩
    have e : cur[k]? = some (.string (ss.getD k ByteArray.empty)) := by
      have := congrArg (fun l => l[k]?) htake
      simp only [Nat.mul_one, List.getElem?_map] at this
      rw [List.getElem?_take_of_lt hk] at this
      have hk2 : k < ss.length := by omega
      rw [List.getElem?_eq_getElem hk2] at this
      simpa [List.getD, hk2] using this
    simp [World.cell?, hg, e]

/-- The names and the values that the second call is handed. -/
def nm (key : ByteArray) (y : Option ByteArray) : List ByteArray := match y with | some _ => [key] | none => []
def vl (y : Option ByteArray) : List ByteArray := match y with | some v => [v] | none => []
def yn (y : Option ByteArray) : Nat := match y with | some _ => 1 | none => 0

theorem again_lim (yl yr : Option ByteArray) : Y true lim (nm lim yl ++ nm req yr) (vl yl ++ vl yr) (min (yn yl + yn yr) (yn yl + yn yr)) = yl := by
  have h1 : ¬ req = lim := fun e => req_ne_lim (congrArg keyL e)
  cases yl <;> cases yr <;> simp [Y, nm, vl, yn, Rm, h1]
theorem again_req (yl yr : Option ByteArray) : Y true req (nm lim yl ++ nm req yr) (vl yl ++ vl yr) (min (yn yl + yn yr) (yn yl + yn yr)) = yr := by
  have h1 : ¬ lim = req := fun e => lim_ne_req (congrArg keyL e)
  cases yl <;> cases yr <;> simp [Y, nm, vl, yn, Rm, h1]

theorem small_Y {wr : Bool} {key : ByteArray} {s3 s4 : List ByteArray} {n : Nat} (h : ∀ s ∈ s4, s.size ≤ maxLen) : ∀ s ∈ vl (Y wr key s3 s4 n), s.size ≤ maxLen := by
  have hr : ∀ n s, Rm key s3 s4 n = some s → s.size ≤ maxLen := by
    intro n
    induction n with
    | zero => intro s hs; cases hs
    | succ n ih =>
      intro s hs
      unfold Rm at hs
      split at hs
      · cases hs; exact key_ok h n
      · exact ih s hs
  intro s hs
  cases hy : Y wr key s3 s4 n with
  | none => rw [hy] at hs; cases hs
  | some v =>
    rw [hy] at hs
    simp [vl] at hs
    subst hs
    unfold Y at hy
    split at hy
    · exact hr n _ hy
    · cases hy

theorem small_nm (yl yr : Option ByteArray) : ∀ s ∈ nm lim yl ++ nm req yr, s.size ≤ maxLen := by
  have a : lim.size ≤ maxLen := by decide
  have b : req.size ≤ maxLen := by decide
  cases yl <;> cases yr <;> simp [nm, a, b]

theorem isS {y : Option ByteArray} (h : y.isSome = true) : Value.bool true = .bool y.isSome := by rw [h]
theorem yn_le (y : Option ByteArray) : yn y ≤ 1 := by cases y <;> simp [yn]

theorem two_first {w w1 w2 : World} {base : Nat} {k1 v1 : Value} {yl : Option ByteArray} (h : yl.isSome = true)
    (hk : w1.ownsRow base 9 1 k1 (0 + 1) (([] ++ [lim]).map Value.string)) (gk : w.grownBy w1 none) (lk : k1.ownBlock = none ∨ k1.ownBlock = some (w.heap.size + 1))
    (hv : w2.ownsRow base 9 1 v1 (0 + 1) (([] ++ [txt yl]).map Value.string)) (gv : w1.grownBy w2 none) (lv : v1.ownBlock = none ∨ v1.ownBlock = some (w1.heap.size + 1)) :
    Two w2 base k1 v1 (yn yl) (nm lim yl) (vl yl) := by
  cases yl with
  | none => cases h
  | some y => exact (two_nil w base).more hk gk lk hv gv lv

theorem two_none {yl : Option ByteArray} (h : yl.isSome = false) (w : World) (base : Nat) : Two w base (.slice none 0 0) (.slice none 0 0) (yn yl) (nm lim yl) (vl yl) := by
  cases yl with
  | none => exact two_nil w base
  | some y => cases h

def TwoOut (k v : Value) (wc : World) (n : Nat) (ks vs : List ByteArray) (w5 : World) : Prop :=
  ∃ (ka : Option Addr) (kc kb : Nat) (va : Option Addr) (vc vb : Nat), k = .slice ka n kc ∧ v = .slice va n vc ∧ SL wc ka n kc kb 0 ks ∧ SL wc va n vc vb 0 vs ∧ Below w5.heap.size w5 wc

theorem two_shut {wc w5 : World} {base n : Nat} {k v : Value} {ks vs : List ByteArray} (h : Two wc base k v n ks vs) (hk : ∀ s ∈ ks, s.size ≤ maxLen) (hv : ∀ s ∈ vs, s.size ≤ maxLen) (bl : Below w5.heap.size w5 wc) :
    TwoOut k v wc n ks vs w5 := by
  obtain ⟨ka, kc, kb, rfl, slk⟩ := SL.of_own h.K hk
  obtain ⟨va, vc, vb, rfl, slv⟩ := SL.of_own h.V hv
  exact ⟨ka, kc, kb, va, vc, vb, rfl, rfl, slk, slv, bl⟩

theorem two_out {wc w5 : World} {base : Nat} {k v : Value} {yl yr : Option ByteArray} (h : yr.isSome = true) (hs : ∀ s ∈ vl yl ++ vl yr, s.size ≤ maxLen)
    (hT : Two wc base k v (yn yl + 1) (nm lim yl ++ [req]) (vl yl ++ [txt yr])) (bl : Below w5.heap.size w5 wc) :
    TwoOut k v wc (yn yl + yn yr) (nm lim yl ++ nm req yr) (vl yl ++ vl yr) w5 := by
  cases yr with
  | none => cases h
  | some y => exact two_shut hT (small_nm yl (some y)) hs bl

theorem two_out_none {wc w5 : World} {base : Nat} {k v : Value} {yl yr : Option ByteArray} (h : yr.isSome = false) (hs : ∀ s ∈ vl yl ++ vl yr, s.size ≤ maxLen)
    (hT : Two wc base k v (yn yl) (nm lim yl) (vl yl)) (bl : Below w5.heap.size w5 wc) :
    TwoOut k v wc (yn yl + yn yr) (nm lim yl ++ nm req yr) (vl yl ++ vl yr) w5 := by
  cases yr with
  | none =>
    have e1 : nm lim yl ++ nm req none = nm lim yl := by simp [nm]
    have e2 : vl yl ++ vl none = vl yl := by simp [vl]
    rw [e2] at hs
    have := small_nm yl none
    rw [e1] at this
    rw [e1, e2]
    exact two_shut hT this hs bl
  | some y => cases h

end Go.Proofs.Qxb6612378a
