/-
  The walk of columnsOf: a fresh column for every name, block by block.
-/
import Derived.Test.Qxb6001828aModsStrs
import Derived.Deep.OwnRows
namespace Go.Proofs.Qxb6001828aMods
open Go.RowKit

/-- Behind k rounds of columnsOf, begun in w, at the heap's end B: block B is the row of n + 1 pointers, the first k lead to the new columns B + 1, B + 2, ..; column i bears the name i. -/
structure Made (B : Nat) (w wr : World) (ss : List ByteArray) (n k : Nat) : Prop where
  below : Below B w wr
  size : wr.heap.size = B + 1 + k
  row : wr.rowIs B 36 (n + 1) (fun i => if i < k then .pointer (some ⟨B + 1 + i, 0, none⟩) else .pointer none)
  names : ∀ i, i < k → ColAt wr (B + 1 + i) (ss.getD i ByteArray.empty)

theorem Made.start (w : World) (ss : List ByteArray) (n : Nat) : Made w.heap.size w (w.alloc (.cells (madeCells #[.pointer none] (n + 1)) 36)) ss n 0 := by
  refine ⟨(Below.refl _ _).alloc (Nat.le_refl _) _, by simp, ?_, fun i hi => absurd hi (Nat.not_lt_zero _)⟩
  exact (World.rowIs_made w (.pointer none) (n + 1) 36).congr (fun i _ => by simp)

theorem size_setCell (w : World) (a : Addr) (v : Value) : (w.setCell a v).heap.size = w.heap.size := by simp [World.setCell]

theorem Made.step {B : Nat} {w wr : World} {ss : List ByteArray} {n k : Nat} (h : Made B w wr ss n k) (c : Array Value) (hc : c[0]? = some (.string (ss.getD k ByteArray.empty))) :
    Made B w ((wr.setCell ⟨B, k, none⟩ (.pointer (some ⟨wr.heap.size, 0, none⟩))).alloc (.cells c 44)) ss n (k + 1) := by
  have hs := h.size
  have hz := size_setCell wr ⟨B, k, none⟩ (.pointer (some ⟨wr.heap.size, 0, none⟩))
  refine ⟨(h.below.setCell (Nat.le_refl _) _).alloc (by rw [hz]; omega) _, ?_, ?_, ?_⟩
  · show ((wr.setCell _ _).heap.push _).size = _
    rw [Array.size_push, hz]
    omega
  · refine ((h.row.set k _).alloc _).congr (fun i hi => ?_)
    by_cases e : i = k
    · subst e
      simp [hs]
    · by_cases e2 : i < k
      · simp [e, e2, show i < k + 1 by omega]
      · simp [e, e2, show ¬ i < k + 1 by omega]
  · intro i hi
    by_cases e : i = k
    · subst e
      have e0 : ((wr.setCell ⟨B, i, none⟩ (.pointer (some ⟨wr.heap.size, 0, none⟩))).alloc (.cells c 44)).heap[B + 1 + i]? = some (.cells c 44) := by
        show ((wr.setCell _ _).heap.push (.cells c 44))[B + 1 + i]? = _
        rw [Array.getElem?_push, if_pos (by rw [hz]; omega)]
      exact ⟨c, e0, hc⟩
    · refine (h.names i (by omega)).of_block ?_
      rw [Below.heap_alloc _ _ _ (by rw [hz]; omega), Below.heap_setCell _ _ _ _ (by show B + 1 + i ≠ B; omega)]

theorem Trym.info36 : (Trym.prog.info? 36).map (fun i => (i.zero, i.size, i.bytes)) = some (some (.pointer none), 1, 8) := by kernel_rfl

theorem make_cols (n : Nat) (hn : n ≤ 1048576) (w : World) :
    (Instr.makeSlice 34 (.int .i64 (n : Int)) (.int .i64 ((n : Int) + 1))).run Trym.prog w = .ok (.slice (some ⟨w.heap.size, 0, none⟩) n (n + 1)) (w.alloc (.cells (madeCells #[.pointer none] (n + 1)) 36)) := by
  obtain ⟨i, hi, hzz⟩ := Option.map_eq_some_iff.1 Trym.info36
  simp only [Prod.mk.injEq] at hzz
  obtain ⟨hz, hs, hb⟩ := hzz
  have hr := run_make (P := Trym.prog) w 34 36 i (.pointer none) Trym.underlying34 hi hz .i64 .i64 n (n + 1) (by omega) (by omega) (by rw [hb]; omega) (by omega)
  have e1 : ((n : Int) + 1).toNat = n + 1 := by omega
  rw [hr, hs, e1, Nat.mul_one, Int.toNat_natCast]
  rfl

set_option maxHeartbeats 1000000 in
theorem columnsOf_any (a : Option Addr) (ss : List ByteArray) (cap : Nat) (w : World) (h : StrsAt w a ss) (hs : ss.length ≤ 1048576) :
    Calls Trym.prog 20 #[.slice a ss.length cap] w fun e w' => e = .returned (.slice (some ⟨w.heap.size, 0, none⟩) ss.length (ss.length + 1)) ∧ Made w.heap.size w w' ss ss.length ss.length := by
  obtain ⟨n, hn⟩ : ∃ n, ss.length = n := ⟨_, rfl⟩
  unfold StrsAt at h
  rw [hn] at h hs ⊢
  clear hn
  have hmk := make_cols n hs
  rcases h with h0 | ⟨b, off, rfl, hb, hc⟩
  · have hz : n ≤ 0 := by omega
    clear h0
    go_enter Trym.func20, Trym.ntmps20
    go_wp2
    clear hmk
    go_loopw [4] (fun i wr => ∃ k : Nat, k ≤ n ∧ i = .int .i64 k ∧ Made w.heap.size w wr ss n k) (fun i _ => n - (intOf i).toNat)
    case atStart => exact ⟨0, Nat.zero_le _, rfl, Made.start w ss n⟩
    case round =>
      obtain ⟨k, hk, rfl, hm⟩ := hrel
      have hkn : k = n := by omega
      subst hkn
      go_wp2
      go_ret
      exact ⟨rfl, hm⟩
  · have HC : Hid (∀ i, i < n → w.cell? ⟨b, off + i, none⟩ = some (.string (ss.getD i ByteArray.empty))) := hc
    clear hc
    go_enter Trym.func20, Trym.ntmps20
    go_wp2
    clear hmk
    go_loopw [4] (fun i wr => ∃ k : Nat, k ≤ n ∧ i = .int .i64 k ∧ Made w.heap.size w wr ss n k) (fun i _ => n - (intOf i).toNat)
    case atStart => exact ⟨0, Nat.zero_le _, rfl, Made.start w ss n⟩
    case round =>
      obtain ⟨k, hk, rfl, hm⟩ := hrel
      by_cases hlt : k < n
      · have g : wr.cell? ⟨b, off + k, none⟩ = some (.string (ss.getD k ByteArray.empty)) := (hm.below.cell hb).trans (HC.out k hlt)
        have hcB : wr.cell? ⟨w.heap.size, k, none⟩ = some (.pointer none) := by rw [hm.row.cell (by omega)]; simp
        have hfB : wr.frozen? ⟨w.heap.size, k, none⟩ = false := hm.row.frozen k
        have hlB : w.heap.size < wr.heap.size := hm.row.lt
        have hlb : b < wr.heap.size := by omega
        have hst := fun c => hm.step c
        have HST : Hid (∀ c : Array Value, c[0]? = some (.string (ss.getD k ByteArray.empty)) → Made w.heap.size w ((wr.setCell ⟨w.heap.size, k, none⟩ (.pointer (some ⟨wr.heap.size, 0, none⟩))).alloc (.cells c 44)) ss n (k + 1)) := hst
        clear hst
        obtain ⟨s, hss⟩ : ∃ s, ss.getD k ByteArray.empty = s := ⟨_, rfl⟩
        rw [hss] at g HST
        clear hss hm
        go_wp2
        go_roundw
        case rel => exact ⟨k + 1, by omega, by go_num, HST.out _ rfl⟩
        case measure => simp [intOf]; omega
      · have hkn : k = n := by omega
        subst hkn
        go_wp2
        go_ret
        exact ⟨rfl, hm⟩

end Go.Proofs.Qxb6001828aMods
