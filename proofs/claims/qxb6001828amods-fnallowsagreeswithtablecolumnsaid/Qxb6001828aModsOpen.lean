/-
  A slice of strings that came in, opened for the walks.
-/
import Derived.Test.Qxb6001828aModsStrs
import Derived.ProofKit
import Derived.SliceStrings
import Derived.Deep.OwnRows
namespace Go.Proofs.Qxb6001828aMods
open Go.ChangeShapes Go.WideShapes Go.ChangeAt Go.RowKit

/-- What a walk is told of a slice of strings. -/
structure IsStrs (w : World) (a : Option Addr) (ss : List ByteArray) : Prop where
  at' : StrsAt w a ss
  len : ss.length ≤ maxLen
  size : ∀ i, i < ss.length → (ss.getD i ByteArray.empty).size ≤ maxLen

theorem isStrs_nil (w : World) (a : Option Addr) : IsStrs w a [] := ⟨.inl rfl, Nat.zero_le _, fun _ h => absurd h (Nat.not_lt_zero _)⟩

theorem isStrs_of {w : World} {x : Addr} {len cap : Nat} {zs : List ByteArray} (hl : len ≤ cap) (hm : cap ≤ maxLen) (hz : zs.length = cap)
    (hc : ∀ i, i < zs.length → w.cell? (x.add i) = some (.string (zs.getD i ByteArray.empty))) (hw : ∀ s ∈ zs, s.size ≤ maxLen) : ∃ ss, ss.length = len ∧ IsStrs w (some x) ss := by
  have hlen : (zs.take len).length = len := by rw [List.length_take]; omega
  have hget : ∀ i, i < len → (zs.take len).getD i ByteArray.empty = zs.getD i ByteArray.empty := by
    intro i hi
    simp [List.getD, hi]
  refine ⟨zs.take len, hlen, ?_, by omega, ?_⟩
  · by_cases h0 : len = 0
    · exact .inl (by omega)
    · obtain ⟨b, off, spot⟩ := x
      have hspot : spot = none := by simpa [Addr.add] using World.cell?_spot (hc 0 (by omega))
      subst hspot
      refine .inr ⟨b, off, rfl, World.block_lt_of_cell? w _ (hc 0 (by omega)), fun i hi => ?_⟩
      rw [hget i (by omega), ← hc i (by omega), add_plain]
  · intro i hi
    rw [hget i (by omega)]
    refine hw _ ?_
    rw [List.getD_eq_getElem?_getD, List.getElem?_eq_getElem (by omega)]
    exact List.getElem_mem _

/-- A slice of strings lies as it lay where nothing old has turned. -/
theorem StrsAt.later {w w' : World} {a : Option Addr} {ss : List ByteArray} (h : StrsAt w a ss) (hb : Below w.heap.size w w') : StrsAt w' a ss := by
  rcases h with h | ⟨b, off, e, hlt, hc⟩
  · exact .inl h
  · exact .inr ⟨b, off, e, Nat.lt_of_lt_of_le hlt hb.size, fun i hi => (hb.cell hlt).trans (hc i hi)⟩

end Go.Proofs.Qxb6001828aMods
