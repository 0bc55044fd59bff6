/-
  The slice 'all' that FnAllowsAgreesWithTableColumn gathers by append: what its loops carry.
-/
import Derived.Test.Qxb6001828aModsOwns
import Derived.Test.Qxb6001828aModsTable
namespace Go.Proofs.Qxb6001828aMods
open Go.RowKit

/-- The value v, of n elements, owns the pointers to the columns qs, in memory from BB on; below BB the world is as w2 was. -/
structure Gath (BB : Nat) (w2 wr : World) (v : Value) (n : Nat) (qs : List Nat) : Prop where
  own : wr.ownsRow BB 36 1 v n (qs.map ptr)
  below : Below BB w2 wr

theorem Gath.start (w2 : World) (m : Nat) (hm : m ≤ maxLen) : Gath w2.heap.size w2 (w2.alloc (.cells (madeCells #[.pointer none] m) 36)) (.slice (some ⟨w2.heap.size, 0, none⟩) 0 m) 0 [] :=
  ⟨World.ownsRow_made w2 _ m (Nat.le_refl _) hm (by rw [size_madeCells]; omega), (Below.refl _ _).alloc (Nat.le_refl _) _⟩

theorem Gath.step {BB : Nat} {w2 wr w' : World} {v v' : Value} {n q : Nat} {qs : List Nat} (h : Gath BB w2 wr v n qs) (hB : BB ≤ w2.heap.size) (d : Array Value) (hown : w'.ownsRow BB 36 1 v' (n + 1) (qs.map ptr ++ [ptr q]))
    (hg : (wr.alloc (.cells d 36)).grownBy w' v.ownBlock) : Gath BB w2 w' v' (n + 1) (qs ++ [q]) :=
  ⟨by simpa using hown, (h.below.alloc (Nat.le_trans hB h.below.size) _).grown hg (by have := h.below.size; simp; omega) (fun k e => (h.own.lt k e).1)⟩

theorem Gath.shape {BB : Nat} {w2 wr : World} {v : Value} {n : Nat} {qs : List Nat} (h : Gath BB w2 wr v n qs) : ∃ a cap, v = .slice a n cap := by
  rcases h.own.2 with ⟨hv, h0⟩ | ⟨g, cap, _, hv, _⟩
  · exact ⟨none, 0, by rw [hv, h0]⟩
  · exact ⟨_, cap, hv⟩

theorem qsOf_take {B n k : Nat} (h : k < n) : (qsOf B n).take (k + 1) = (qsOf B n).take k ++ [B + 1 + k] := by
  rw [List.take_succ_eq_append_getElem (by simpa [qsOf] using h)]
  simp [qsOf]
theorem qsOf_take_all {B n : Nat} : (qsOf B n).take n = qsOf B n := List.take_of_length_le (by simp [qsOf])

theorem make_all (n0 n1 : Nat) (h0 : n0 ≤ 1048576) (h1 : n1 ≤ 1048576) (w : World) :
    (Instr.makeSlice 34 (.int .i64 0) (.int .i64 ((n0 : Int) + (n1 : Int)))).run Trym.prog w = .ok (.slice (some ⟨w.heap.size, 0, none⟩) 0 (n0 + n1)) (w.alloc (.cells (madeCells #[.pointer none] (n0 + n1)) 36)) := by
  obtain ⟨i, hi, hzz⟩ := Option.map_eq_some_iff.1 Trym.info36
  simp only [Prod.mk.injEq] at hzz
  obtain ⟨hz, hs, hb⟩ := hzz
  have hr := run_make (P := Trym.prog) w 34 36 i (.pointer none) Trym.underlying34 hi hz .i64 .i64 0 ((n0 : Int) + (n1 : Int)) (by omega) (by omega) (by rw [hb]; omega) (by omega)
  have e1 : ((n0 : Int) + (n1 : Int)).toNat = n0 + n1 := by omega
  rw [hr, hs, e1, Nat.mul_one]
  rfl

theorem Has.append {s0 s1 : List ByteArray} {nm : ByteArray} : Has (s0 ++ s1) nm (s0.length + s1.length) ↔ Has s0 nm s0.length ∨ Has s1 nm s1.length := by
  constructor
  · rintro ⟨i, hi, e⟩
    by_cases h : i < s0.length
    · rw [getD_append_left h] at e
      exact .inl ⟨i, h, e⟩
    · refine .inr ⟨i - s0.length, by omega, ?_⟩
      rw [← e]
      simp [List.getD, List.getElem?_append_right (show s0.length ≤ i by omega)]
  · rintro (⟨i, hi, e⟩ | ⟨i, hi, e⟩)
    · exact ⟨i, by omega, by rw [getD_append_left hi]; exact e⟩
    · refine ⟨s0.length + i, by omega, ?_⟩
      rw [← e]
      simp [List.getD, List.getElem?_append_right (show s0.length ≤ s0.length + i by omega)]

/-- The gathered slice, read as columns in a later world. -/
theorem Gath.cols {w2 w4 w5 : World} {B0 B1 a cap} {s0 s1 : List ByteArray} (h : Gath w2.heap.size w2 w4 (.slice a (s0.length + s1.length) cap) (s0.length + s1.length) (qsOf B0 s0.length ++ qsOf B1 s1.length))
    (h0 : Cols w2 B0 (qsOf B0 s0.length) s0) (h1 : Cols w2 B1 (qsOf B1 s1.length) s1) (h5 : Below w4.heap.size w4 w5) :
    s0.length + s1.length ≤ 0 ∨ ∃ g, a = some ⟨g, 0, none⟩ ∧ Cols w5 g (qsOf B0 s0.length ++ qsOf B1 s1.length) (s0 ++ s1) := by
  have l0 : (qsOf B0 s0.length).length = s0.length := by simp [qsOf]
  have l1 : (qsOf B1 s1.length).length = s1.length := by simp [qsOf]
  have hcs := cols_of_owns (ns := s0 ++ s1) h.own (by simp [l0, l1]) (by simp) ?_
  · rcases hcs with h' | ⟨g, cap', hv, _, hc⟩
    · exact .inl (by omega)
    · cases hv
      exact .inr ⟨g, rfl, hc.later h5⟩
  · intro i hi
    by_cases hl : i < s0.length
    · rw [getD_append_left (by omega), getD_append_left hl]
      exact (h0.later h.below).name i hl
    · have e1 : (qsOf B0 s0.length ++ qsOf B1 s1.length).getD i 0 = (qsOf B1 s1.length).getD (i - s0.length) 0 := by
        simp [List.getD, List.getElem?_append_right (show (qsOf B0 s0.length).length ≤ i by omega), l0]
      have e2 : (s0 ++ s1).getD i ByteArray.empty = s1.getD (i - s0.length) ByteArray.empty := by
        simp [List.getD, List.getElem?_append_right (show s0.length ≤ i by omega)]
      rw [e1, e2]
      exact (h1.later h.below).name _ (by omega)

end Go.Proofs.Qxb6001828aMods
