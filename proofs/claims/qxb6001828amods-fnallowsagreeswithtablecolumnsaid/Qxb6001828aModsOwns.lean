/-
  Rows of pointers to columns that the call itself owns: from columnsOf's row to append's words and back.
-/
import Derived.Test.Qxb6001828aModsCand
namespace Go.Proofs.Qxb6001828aMods
open Go.RowKit

/-- The pointer to the column at the head of block q. -/
def ptr (q : Nat) : Value := .pointer (some ⟨q, 0, none⟩)

theorem owns_of_row {w : World} {B n : Nat} {f : Nat → Value} (h : w.rowIs B 36 (n + 1) f) (hf : ∀ i, i < n → f i = ptr (B + 1 + i)) (hm : n + 1 ≤ maxLen) :
    w.ownsRow B 36 1 (.slice (some ⟨B, 0, none⟩) n (n + 1)) n ((qsOf B n).map ptr) := by
  obtain ⟨c, hb, hn, hc⟩ := h
  refine ⟨by simp [qsOf], .inr ⟨B, n + 1, c, rfl, Nat.le_refl _, hb, by omega, hm, by omega, ?_⟩⟩
  apply List.ext_getElem?
  intro i
  rw [Nat.mul_one, List.getElem?_take]
  by_cases hi : i < n
  · rw [if_pos hi, Array.getElem?_toList, hc i (by omega), hf i hi]
    simp [qsOf, hi]
  · rw [if_neg hi]
    symm
    rw [List.getElem?_eq_none_iff]
    simp [qsOf]
    omega

theorem cols_of_owns {w : World} {base n : Nat} {v : Value} {qs : List Nat} {ns : List ByteArray} (h : w.ownsRow base 36 1 v n (qs.map ptr)) (hq : qs.length = n) (hs : ns.length = n)
    (hname : ∀ i, i < n → ColAt w (qs.getD i 0) (ns.getD i ByteArray.empty)) :
    n = 0 ∨ ∃ g cap, v = .slice (some ⟨g, 0, none⟩) n cap ∧ base ≤ g ∧ Cols w g qs ns := by
  rcases h.2 with ⟨_, h0⟩ | ⟨g, cap, cur, hv, hg, _⟩
  · exact .inl h0
  refine .inr ⟨g, cap, hv, hg, by omega, fun i hi => ?_, fun i hi => hname i (by omega)⟩
  have hc := h.cells (g := g) (by rw [hv]; rfl) i (ptr (qs.getD i 0)) (by
    rw [List.getElem?_map, List.getElem?_eq_getElem (by omega)]
    simp [List.getD, List.getElem?_eq_getElem (show i < qs.length by omega)])
  have hadd : (⟨g, 0, none⟩ : Addr).add i = ⟨g, i, none⟩ := by unfold Addr.add; split <;> simp_all
  rw [hadd] at hc
  exact hc

theorem Cols.grown {w w' : World} {b r : Nat} {qs : List Nat} {ns : List ByteArray} (h : Cols w b qs ns) (hg : w.grownBy w' (some r)) (hb : b ≠ r) (hq : ∀ i, i < ns.length → qs.getD i 0 ≠ r) : Cols w' b qs ns :=
  ⟨h.len, fun i hi => hg.cell (h.ptr i hi) (by simpa using hb), fun i hi => (h.name i hi).of_block (hg.block _ (h.name i hi).lt (by simpa using hq i hi))⟩

theorem Has.snoc {ns : List ByteArray} {x nm : ByteArray} : Has (ns ++ [x]) nm (ns.length + 1) ↔ Has ns nm ns.length ∨ nm.toList = x.toList := by
  constructor
  · rintro ⟨i, hi, e⟩
    by_cases h : i < ns.length
    · left
      refine ⟨i, h, ?_⟩
      rw [← e]
      simp [List.getD, List.getElem?_append_left h]
    · right
      have hi' : i = ns.length := by omega
      subst hi'
      rw [← e]
      simp [List.getD]
  · rintro (⟨i, hi, e⟩ | e)
    · refine ⟨i, by omega, ?_⟩
      rw [← e]
      simp [List.getD, List.getElem?_append_left hi]
    · refine ⟨ns.length, by omega, ?_⟩
      rw [e]
      simp [List.getD]

theorem getD_append_left {α : Type} {l r : List α} {d : α} {i : Nat} (h : i < l.length) : (l ++ r).getD i d = l.getD i d := by simp [List.getD, List.getElem?_append_left h]
theorem getD_append_at {α : Type} {l : List α} {x d : α} {i : Nat} (h : i = l.length) : (l ++ [x]).getD i d = x := by subst h; simp [List.getD]

/-- Behind 'append(allow, &Column{Name: ex})': the new row, its columns, the must columns, and what lay below. -/
theorem after_append {w3 w5 : World} {B0 B1 : Nat} {s0 s1 : List ByteArray} {ex : ByteArray} {v' : Value} (c d : Array Value) (hc : c[0]? = some (.string ex))
    (h0 : Cols w3 B0 (qsOf B0 s0.length) s0) (h1 : Cols w3 B1 (qsOf B1 s1.length) s1) (hB0 : B0 + 1 + s0.length ≤ B1) (hB1 : B1 + 1 + s1.length ≤ w3.heap.size)
    (hown : w5.ownsRow B1 36 1 v' (s1.length + 1) ((qsOf B1 s1.length).map ptr ++ [ptr w3.heap.size]))
    (hg : ((w3.alloc (.cells c 44)).alloc (.cells d 36)).grownBy w5 (some B1)) :
    (∃ g cap, v' = .slice (some ⟨g, 0, none⟩) (s1.length + 1) cap ∧ Cols w5 g (qsOf B1 s1.length ++ [w3.heap.size]) (s1 ++ [ex])) ∧ Cols w5 B0 (qsOf B0 s0.length) s0 ∧ Below B1 w3 w5 := by
  have bW : Below w3.heap.size w3 ((w3.alloc (.cells c 44)).alloc (.cells d 36)) := ((Below.refl _ _).alloc (Nat.le_refl _) _).alloc (by simp) _
  have hC : ColAt ((w3.alloc (.cells c 44)).alloc (.cells d 36)) w3.heap.size ex := (colAt_new w3 c ex hc).alloc _
  have hq : (qsOf B1 s1.length).length = s1.length := by simp [qsOf]
  refine ⟨?_, ?_, ?_⟩
  · have e : (qsOf B1 s1.length).map ptr ++ [ptr w3.heap.size] = (qsOf B1 s1.length ++ [w3.heap.size]).map ptr := by simp
    rw [e] at hown
    have hcs := cols_of_owns (ns := s1 ++ [ex]) hown (by simp [hq]) (by simp) ?_
    · rcases hcs with h | ⟨g, cap, hv, _, hcols⟩
      · exact absurd h (by omega)
      · exact ⟨g, cap, hv, hcols⟩
    · intro i hi
      by_cases hl : i < s1.length
      · rw [getD_append_left (by omega), getD_append_left hl]
        have := (h1.later bW).name i hl
        rw [qsOf_getD hl] at this ⊢
        exact this.of_block (hg.block _ this.lt (by simp; omega))
      · rw [getD_append_at (by omega), getD_append_at (by omega)]
        exact hC.of_block (hg.block _ hC.lt (by simp; omega))
  · exact (h0.later bW).grown hg (by omega) (fun i hi => by rw [qsOf_getD hi]; omega)
  · exact (((Below.refl _ _).alloc (by omega) _).alloc (by simp; omega) _).grown hg (by simp; omega) (fun k e => by cases e; exact Nat.le_refl _)

end Go.Proofs.Qxb6001828aMods
