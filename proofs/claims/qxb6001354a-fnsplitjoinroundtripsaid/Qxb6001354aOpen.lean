/-
  A slice of strings that came in, as the walks are told of it.
-/
import Derived.Test.Qxb6001354aBounds
import Derived.ProofKit
import Derived.OpenShut
import Derived.SliceStrings
namespace Go.Proofs.Qxb6001354a
open Go.ChangeShapes Go.WideShapes Go.ChangeAt Go.RowKit

theorem lt_of_cell? {w : World} {a : Addr} {v : Value} (h : w.cell? a = some v) : a.block < w.heap.size := by
  unfold World.cell? at h
  rcases Nat.lt_or_ge a.block w.heap.size with h' | h'
  · exact h'
  · rw [Array.getElem?_eq_none h'] at h
    cases h

theorem row_of_cells {W : World} {a : Addr} {len : Nat} {ss : List ByteArray} (hl : len ≤ ss.length) (hc : ∀ i, i < ss.length → W.cell? (a.add i) = some (.string (ss.getD i ByteArray.empty))) :
    ∃ b off, StrRow W (some a) len (ss.take len) b off ∧ (0 < len → b < W.heap.size) := by
  by_cases h0 : len = 0
  · subst h0
    exact ⟨0, 0, ⟨rfl, fun h => absurd h (Nat.lt_irrefl _), fun i hi => absurd hi (Nat.not_lt_zero _)⟩, fun h => absurd h (Nat.lt_irrefl _)⟩
  · obtain ⟨b, off, spot⟩ := a
    have h00 := hc 0 (by omega)
    have hspot : spot = none := by simpa [Addr.add] using World.cell?_spot h00
    subst hspot
    refine ⟨b, off, ⟨by simp; omega, fun _ => rfl, fun i hi => ?_⟩, fun _ => ?_⟩
    · have := hc i (by omega)
      rw [Go.WideShapes.add_plain] at this
      rw [this]
      simp [List.getD_eq_getElem?_getD, hi]
    · rw [Go.WideShapes.add_plain] at h00
      exact lt_of_cell? h00

/-- An argument of type []string, opened for the walks. -/
theorem open_arg {H : Type} {enc : TypeId × Value → H} {W : World} {a0 : Option Addr} {len0 cap0 : Nat} {x : DataW H × List MemPlace} {fuel : Nat}
    (hf : DataW.trod enc Try.prog W 0 (fun _ => true) true fuel 22 (Value.slice a0 len0 cap0).cells.toList = some x) :
    ∃ ss b off, StrRow W a0 len0 ss b off ∧ len0 ≤ maxLen ∧ (∀ s ∈ ss, s.size ≤ maxLen) ∧ (0 < len0 → b < W.heap.size) := by
  rcases open_strings Try.underlying22 Try.underlying9 (by kernel_rfl) hf with ⟨hcs, _⟩ | ⟨x, l, c, ss, hcs, _, hl, hm, hz, _, hcell, hws⟩
  · simp [Value.cells] at hcs
    obtain ⟨rfl, rfl, rfl⟩ := hcs
    exact ⟨[], 0, 0, ⟨rfl, fun h => absurd h (Nat.lt_irrefl _), fun i hi => absurd hi (Nat.not_lt_zero _)⟩, Nat.zero_le _, (fun s hs => by cases hs), fun h => absurd h (Nat.lt_irrefl _)⟩
  · simp [Value.cells] at hcs
    obtain ⟨rfl, rfl, rfl⟩ := hcs
    have hz' : ss.length = cap0 := by simpa using hz
    obtain ⟨b, off, hr, hb⟩ := row_of_cells (len := len0) (ss := ss) (by rw [hz']; exact hl) hcell
    exact ⟨_, b, off, hr, Nat.le_trans hl hm, fun s hs => hws s (List.mem_of_mem_take hs), hb⟩

end Go.Proofs.Qxb6001354a
