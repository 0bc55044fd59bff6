/-
  Slices of strings that came in, as a walk wants them; the walks of namesBytes.
-/
import Derived.Test.Qxb6001828aModsRows
import Derived.WalkKit
import Derived.WalkSpells
import Derived.WalkLawsBesides
namespace Go.Proofs.Qxb6001828aMods
open Go.RowKit

/-- The slice at 'a' holds the strings 'ss' in its first cells, in memory that is there. -/
def StrsAt (w : World) (a : Option Addr) (ss : List ByteArray) : Prop :=
  ss.length = 0 ∨ ∃ b off, a = some ⟨b, off, none⟩ ∧ b < w.heap.size ∧ ∀ i, i < ss.length → w.cell? ⟨b, off + i, none⟩ = some (.string (ss.getD i ByteArray.empty))
/-- At most 2^20 strings, each of at most 2^20 bytes. -/
def Small (ss : List ByteArray) : Prop := ss.length ≤ 1048576 ∧ ∀ i, i < ss.length → (ss.getD i ByteArray.empty).size ≤ 1048576
/-- The first k strings have at most 2^20 bytes each. -/
def Upto (ss : List ByteArray) (k : Nat) : Prop := ∀ i, i < k → (ss.getD i ByteArray.empty).size ≤ 1048576
theorem Upto.zero (ss : List ByteArray) : Upto ss 0 := fun _ h => absurd h (Nat.not_lt_zero _)
theorem Upto.step {ss : List ByteArray} {k : Nat} (h : Upto ss k) (hk : (ss.getD k ByteArray.empty).size ≤ 1048576) : Upto ss (k + 1) := by
  intro i hi
  by_cases e : i = k
  · rw [e]; exact hk
  · exact h i (by omega)

/-- Block q is a column of the call's own, named s. -/
def ColAt (w : World) (q : Nat) (s : ByteArray) : Prop := ∃ c, w.heap[q]? = some (.cells c 44 (0, 0)) ∧ c[0]? = some (.string s)
theorem ColAt.cell {w : World} {q : Nat} {s : ByteArray} (h : ColAt w q s) : w.cell? ⟨q, 0, none⟩ = some (.string s) := by
  obtain ⟨c, h1, h2⟩ := h
  simp [World.cell?, h1, h2]
theorem ColAt.of_block {w w' : World} {q : Nat} {s : ByteArray} (h : ColAt w q s) (e : w'.heap[q]? = w.heap[q]?) : ColAt w' q s := by
  obtain ⟨c, h1, h2⟩ := h
  exact ⟨c, e.trans h1, h2⟩
theorem ColAt.lt {w : World} {q : Nat} {s : ByteArray} (h : ColAt w q s) : q < w.heap.size := by
  obtain ⟨c, h1, _⟩ := h
  exact (Array.getElem?_eq_some_iff.1 h1).1

/-- It answers a bool, and where it says yes, P holds. -/
def Says (P : Prop) (e : Ending) : Prop := ∃ b : Bool, e = .returned (.bool b) ∧ (b = true → P)
theorem Says.no (P : Prop) : Says P (.returned (.bool false)) := ⟨false, rfl, fun h => Bool.noConfusion h⟩
theorem Says.yes {P : Prop} (h : P) : Says P (.returned (.bool true)) := ⟨true, rfl, fun _ => h⟩
theorem Small.mk {ss : List ByteArray} {n : Nat} (hn : ss.length = n) (h1 : n ≤ 1048576) (h2 : Upto ss n) : Small ss := ⟨by omega, fun i hi => h2 i (by omega)⟩

set_option maxHeartbeats 1000000 in
theorem namesBytes_any (a : Option Addr) (ss : List ByteArray) (cap : Nat) (w : World) (h : StrsAt w a ss) (hs : Small ss) :
    Calls Trym.prog 19 #[.slice a ss.length cap] w fun e w' => (∃ n : Int, e = .returned (.int .i64 n) ∧ 0 ≤ n ∧ n ≤ 1048577) ∧ w' = w := by
  obtain ⟨hl, hsz⟩ := hs
  obtain ⟨len, hlen⟩ : ∃ len, ss.length = len := ⟨_, rfl⟩
  unfold StrsAt at h
  rw [hlen] at h hl hsz ⊢
  have HSZ : Hid (∀ i, i < len → (ss.getD i ByteArray.empty).size ≤ 1048576) := hsz
  clear hsz hlen
  rcases h with h0 | ⟨b, off, rfl, hb, hc⟩
  · have hz : len ≤ 0 := by omega
    clear h0
    go_enter Trym.func19, Trym.ntmps19
    go_wp2
    go_loop [3, 4] (fun t i => ∃ k n : Nat, k ≤ len ∧ n ≤ 16777216 ∧ ((k = 0 ∧ n ≤ 16 * len) ∨ n ≤ 1048576) ∧ i = .int .i64 k ∧ t = .int .i64 n) (fun _ i => len - (intOf i).toNat)
    case atStart => exact ⟨0, 16 * len, by omega, by omega, by omega, rfl, by go_num⟩
    case round =>
      obtain ⟨k, n, hk, hn, hkn, rfl, rfl⟩ := hrel
      go_wp2
      go_ret
      exact ⟨⟨_, rfl, by omega, by omega⟩, rfl⟩
  · have HC : Hid (∀ i, i < len → w.cell? ⟨b, off + i, none⟩ = some (.string (ss.getD i ByteArray.empty))) := hc
    clear hc
    go_enter Trym.func19, Trym.ntmps19
    go_wp2
    go_loop [3, 4] (fun t i => ∃ k n : Nat, k ≤ len ∧ n ≤ 16777216 ∧ ((k = 0 ∧ n ≤ 16 * len) ∨ n ≤ 1048576) ∧ i = .int .i64 k ∧ t = .int .i64 n) (fun _ i => len - (intOf i).toNat)
    case atStart => exact ⟨0, 16 * len, by omega, by omega, by omega, rfl, by go_num⟩
    case round =>
      obtain ⟨k, n, hk, hn, hkn, rfl, rfl⟩ := hrel
      by_cases hlt : k < len
      · have g := HC.out k hlt
        have gz := HSZ.out k hlt
        obtain ⟨s, hss⟩ : ∃ s, ss.getD k ByteArray.empty = s := ⟨_, rfl⟩
        rw [hss] at g gz
        clear hss
        go_wp2
        · go_ret
          exact ⟨⟨_, rfl, by omega, by omega⟩, rfl⟩
        · go_round
          case rel => exact ⟨k + 1, n + s.size, by omega, by omega, by omega, by go_num, by go_num⟩
          case measure => simp [intOf]; omega
      · go_wp2
        go_ret
        exact ⟨⟨_, rfl, by omega, by omega⟩, rfl⟩

end Go.Proofs.Qxb6001828aMods
