import Derived.Test.Qxb6612378aDoorSl
import Derived.ProofKit
namespace Go.Proofs.Qxb6612378aDoor
open Go.ChangeShapes Go.WideShapes Go.ChangeAt Go.RowKit

theorem cell_lt {w : World} {b o : Nat} {v : Value} (h : w.cell? ⟨b, o, none⟩ = some v) : b < w.heap.size := by
  rcases Nat.lt_or_ge b w.heap.size with h0 | h0
  · exact h0
  · have e : w.heap[b]? = none := by simp [h0]
    simp [World.cell?, e] at h

/-- A slice of strings that came in: what the walks are told of it. -/
theorem sl_open {H : Type} {enc : TypeId × Value → H} {W : World} {a : Option Addr} {len cap : Nat} {d : DataW H} {p : List MemPlace}
    (h : DataW.Trod enc Tryd.prog W 0 (fun _ => true) true 27 (.slice a len cap) d p) : ∃ b off ss, SL W a len cap b off ss ∧ len ≤ maxLen := by
  obtain ⟨fuel, hf⟩ := h
  rcases open_strings Tryd.underlying27 Tryd.underlying9 cells9 hf with ⟨hcs, _⟩ | ⟨x, l, c, ss, hcs, _, hl, hm, hz, _, hcell, hws⟩
  · simp [Value.cells] at hcs
    obtain ⟨rfl, rfl, rfl⟩ := hcs
    exact ⟨0, 0, [], ⟨rfl, by omega, by omega, by omega, by simp⟩, Nat.zero_le _⟩
  · simp [Value.cells] at hcs
    obtain ⟨rfl, rfl, rfl⟩ := hcs
    simp only [if_true] at hz
    rcases Nat.eq_zero_or_pos len with h0 | h0
    · subst h0
      exact ⟨0, 0, [], ⟨rfl, by omega, by omega, by omega, by simp⟩, Nat.zero_le _⟩
    · obtain ⟨b, off, spot⟩ := x
      have hspot : spot = none := by simpa [Addr.add] using World.cell?_spot (hcell 0 (by omega))
      subst hspot
      have hc : ∀ k, k < len → W.cell? ⟨b, off + k, none⟩ = some (.string ((ss.take len).getD k ByteArray.empty)) := fun k hk => by
        rw [← WideShapes.add_plain, hcell k (by omega)]
        simp [List.getD, hk]
      exact ⟨b, off, ss.take len, ⟨by simp; omega, fun _ => rfl, hc, fun _ => cell_lt (hc 0 h0), fun s hs => hws s (List.mem_of_mem_take hs)⟩, by omega⟩

end Go.Proofs.Qxb6612378aDoor
