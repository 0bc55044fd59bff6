/-
  The walks of ZZAllows, ZZMustHold, candidate; columns carried into a later world.
-/
import Derived.Test.Qxb6001828aModsAllow
import Derived.Test.Qxb6001828aModsCols
namespace Go.Proofs.Qxb6001828aMods
open Go.RowKit

/-- Columns lie as they lay where nothing old has turned. -/
theorem Cols.later {w w' : World} {b : Nat} {qs : List Nat} {ns : List ByteArray} (h : Cols w b qs ns) (hb : Below w.heap.size w w') : Cols w' b qs ns :=
  ⟨h.len, fun i hi => (hb.cell (World.block_lt_of_cell? w _ (h.ptr i hi))).trans (h.ptr i hi), fun i hi => (h.name i hi).of_block (hb.block _ (h.name i hi).lt)⟩

/-- The blocks of n fresh columns behind the row at B. -/
def qsOf (B n : Nat) : List Nat := (List.range n).map fun i => B + 1 + i
theorem qsOf_getD {B n i : Nat} (h : i < n) : (qsOf B n).getD i 0 = B + 1 + i := by simp [qsOf, h]
theorem Made.cols {B : Nat} {w wr : World} {ss : List ByteArray} (h : Made B w wr ss ss.length ss.length) : Cols wr B (qsOf B ss.length) ss := by
  refine ⟨by simp [qsOf], fun i hi => ?_, fun i hi => ?_⟩
  · rw [qsOf_getD hi, h.row.cell (by omega)]
    simp [hi]
  · rw [qsOf_getD hi]
    exact h.names i hi

theorem ColAt.alloc {w : World} {q : Nat} {s : ByteArray} (h : ColAt w q s) (o : Obj) : ColAt (w.alloc o) q s := h.of_block (Below.heap_alloc _ _ _ h.lt)

set_option maxHeartbeats 400000 in
theorem zzAllows_any (tp : Option Addr) (b0 c0 b1 c1 : Nat) (q0 : List Nat) (s0 : List ByteArray) (q1 : List Nat) (s1 : List ByteArray) (nm : ByteArray) (w : World)
    (hn0 : s0.length ≤ 1048576) (hn1 : s1.length ≤ 1048577) (h0 : Cols w b0 q0 s0) (h1 : Cols w b1 q1 s1) :
    Calls Trym.prog 21 #[.pointer tp, .slice (some ⟨b0, 0, none⟩) s0.length c0, .slice (some ⟨b1, 0, none⟩) s1.length c1, .string nm] w fun e w' => Tells (Has s0 nm s0.length ∨ Has s1 nm s1.length) e ∧ Below w.heap.size w w' := by
  have H := fun o r0 r1 => allows_any w.heap.size b0 c0 b1 c1 q0 s0 q1 s1 nm (w.alloc o) hn0 hn1 r0 r1 (h0.later ((Below.refl _ _).alloc (Nat.le_refl _) o)) (h1.later ((Below.refl _ _).alloc (Nat.le_refl _) o))
  have HH := @H (.cells #[.pointer tp, .slice (some ⟨b0, 0, none⟩) s0.length c0, .slice (some ⟨b1, 0, none⟩) s1.length c1] 51) (by simp) (by simp)
  clear H h0 h1
  obtain ⟨n0, hnn0⟩ : ∃ n, s0.length = n := ⟨_, rfl⟩
  obtain ⟨n1, hnn1⟩ : ∃ n, s1.length = n := ⟨_, rfl⟩
  rw [hnn0, hnn1] at HH ⊢
  obtain ⟨Q, hQ⟩ : ∃ Q, Q = (Has s0 nm n0 ∨ Has s1 nm n1) := ⟨_, rfl⟩
  rw [← hQ] at HH ⊢
  clear hQ hnn0 hnn1
  go_enter Trym.func21, Trym.ntmps21
  go_wp2_with fail
  refine HH.mono ?_
  rintro e w' ⟨⟨b, rfl, hb⟩, hbel⟩
  have HB : Hid (b = true ↔ Q) := hb
  clear hb HH
  go_wp2
  go_ret
  exact ⟨⟨b, rfl, HB.out⟩, ((Below.refl _ _).alloc (Nat.le_refl _) _).trans (hbel.mono (by simp))⟩

set_option maxHeartbeats 400000 in
theorem zzMustHold_any (tp : Option Addr) (b0 c0 cb : Nat) (a1 : Option Addr) (n1 c1 : Nat) (q0 : List Nat) (s0 : List ByteArray) (t : ByteArray) (w : World)
    (hn0 : s0.length ≤ 1048576) (h0 : Cols w b0 q0 s0) (ht : ColAt w cb t) :
    Calls Trym.prog 27 #[.pointer tp, .slice (some ⟨b0, 0, none⟩) s0.length c0, .slice a1 n1 c1, .pointer (some ⟨cb, 0, none⟩)] w fun e w' => Tells (Leads q0 cb s0.length) e ∧ Below w.heap.size w w' := by
  have H := fun o r0 => mustHold_any w.heap.size b0 c0 cb q0 s0 t (w.alloc o) hn0 r0 (h0.later ((Below.refl _ _).alloc (Nat.le_refl _) o)) (ht.alloc o)
  have HH := @H (.cells #[.pointer tp, .slice (some ⟨b0, 0, none⟩) s0.length c0, .slice a1 n1 c1] 51) (by simp)
  clear H h0 ht
  obtain ⟨n0, hnn0⟩ : ∃ n, s0.length = n := ⟨_, rfl⟩
  rw [hnn0] at HH ⊢
  clear hnn0
  go_enter Trym.func27, Trym.ntmps27
  go_wp2_with fail
  refine HH.mono ?_
  rintro e w' ⟨⟨b, rfl, hb⟩, rfl⟩
  have HB : Hid (b = true ↔ Leads q0 cb n0) := hb
  clear hb HH
  go_wp2
  go_ret
  exact ⟨⟨b, rfl, HB.out⟩, (Below.refl _ _).alloc (Nat.le_refl _) _⟩

/-- What candidate picks. -/
structure Picks (w : World) (q0 : List Nat) (s0 : List ByteArray) (q1 : List Nat) (n1 p cb : Nat) (t : ByteArray) (w' : World) : Prop where
  col : ColAt w' cb t
  below : Below w.heap.size w w'
  must : p < s0.length → cb = q0.getD p 0 ∧ t = s0.getD p ByteArray.empty
  allow : s0.length ≤ p → p < s0.length + n1 → cb = q1.getD (p - s0.length) 0
  fresh : s0.length + n1 ≤ p → cb = w.heap.size
def PicksE (w : World) (q0 : List Nat) (s0 : List ByteArray) (q1 : List Nat) (n1 p : Nat) (e : Ending) (w' : World) : Prop :=
  ∃ cb t, e = .returned (.pointer (some ⟨cb, 0, none⟩)) ∧ Picks w q0 s0 q1 n1 p cb t w'

theorem colAt_new (w : World) (c : Array Value) (s : ByteArray) (h : c[0]? = some (.string s)) : ColAt (w.alloc (.cells c 44)) w.heap.size s :=
  ⟨c, by show (w.heap.push _)[w.heap.size]? = _; simp, h⟩

set_option maxHeartbeats 400000 in
theorem candidate_any (b0 c0 b1 c1 : Nat) (a2 : Option Addr) (c2 : Nat) (q0 : List Nat) (s0 : List ByteArray) (q1 : List Nat) (s1 : List ByteArray) (p : Nat) (w : World)
    (hn0 : s0.length ≤ 1048576) (hn1 : s1.length ≤ 1048576) (hp : p ≤ 4194304) (h0 : Cols w b0 q0 s0) (h1 : Cols w b1 q1 s1) (h2 : StrsAt w a2 s0) :
    Calls Trym.prog 26 #[.slice (some ⟨b0, 0, none⟩) s0.length c0, .slice (some ⟨b1, 0, none⟩) s1.length c1, .slice a2 s0.length c2, .int .i64 p] w fun e w' => PicksE w q0 s0 q1 s1.length p e w' := by
  by_cases e0 : p < s0.length
  · have g := h0.ptr p e0
    have HF : Hid (Picks w q0 s0 q1 s1.length p (q0.getD p 0) (s0.getD p ByteArray.empty) w) := ⟨h0.name p e0, Below.refl _ _, fun _ => ⟨rfl, rfl⟩, fun h => absurd h (by omega), fun h => absurd h (by omega)⟩
    clear h0 h1 h2
    obtain ⟨q, hq⟩ : ∃ q, q0.getD p 0 = q := ⟨_, rfl⟩
    rw [hq] at g HF
    clear hq
    go_enter Trym.func26, Trym.ntmps26
    go_wp2
    go_ret
    exact ⟨_, _, rfl, HF.out⟩
  by_cases e1 : p < s0.length + s1.length
  · obtain ⟨d, hd⟩ : ∃ d, p - s0.length = d := ⟨_, rfl⟩
    have g := h1.ptr d (by omega)
    have HF : Hid (Picks w q0 s0 q1 s1.length p (q1.getD d 0) (s1.getD d ByteArray.empty) w) := ⟨h1.name d (by omega), Below.refl _ _, fun h => absurd h (by omega), fun _ _ => by rw [hd], fun h => absurd h (by omega)⟩
    clear h0 h1 h2
    obtain ⟨q, hq⟩ : ∃ q, q1.getD d 0 = q := ⟨_, rfl⟩
    rw [hq] at g HF
    rw [← hd] at g
    clear hq hd
    go_enter Trym.func26, Trym.ntmps26
    go_wp2
    go_ret
    exact ⟨_, _, rfl, HF.out⟩
  · have HF : Hid (∀ c s, c[0]? = some (.string s) → Picks w q0 s0 q1 s1.length p w.heap.size s (w.alloc (.cells c 44))) := fun c s h =>
      ⟨colAt_new w c s h, (Below.refl _ _).alloc (Nat.le_refl _) _, fun h => absurd h (by omega), fun _ h => absurd h (by omega), fun _ => rfl⟩
    clear h0 h1
    unfold StrsAt at h2
    obtain ⟨n0, hnn0⟩ : ∃ n, s0.length = n := ⟨_, rfl⟩
    rw [hnn0] at hn0 e0 e1 h2 ⊢
    by_cases ez : 0 < n0
    · rcases h2 with h | ⟨b, off, rfl, hb, hc⟩
      · omega
      have g := hc 0 ez
      clear hc hnn0
      obtain ⟨s, hs⟩ : ∃ s, s0.getD 0 ByteArray.empty = s := ⟨_, rfl⟩
      rw [hs, Nat.add_zero] at g
      clear hs
      go_enter Trym.func26, Trym.ntmps26
      go_wp2
      go_ret
      exact ⟨_, _, rfl, HF.out _ _ rfl⟩
    · clear h2 hnn0
      go_enter Trym.func26, Trym.ntmps26
      go_wp2
      go_ret
      exact ⟨_, _, rfl, HF.out _ _ rfl⟩

end Go.Proofs.Qxb6001828aMods
