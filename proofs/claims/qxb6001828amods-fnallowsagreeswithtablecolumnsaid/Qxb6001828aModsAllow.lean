/-
  The walks of allows, ZZAllows and Table.Column over slices of columns; ZZMustHold; candidate.
-/
import Derived.Test.Qxb6001828aModsRule
namespace Go.Proofs.Qxb6001828aMods
open Go.RowKit

/-- One of the first k names is nm. -/
def Has (ns : List ByteArray) (nm : ByteArray) (k : Nat) : Prop := ∃ i, i < k ∧ (ns.getD i ByteArray.empty).toList = nm.toList
theorem Has.zero {ns : List ByteArray} {nm : ByteArray} : ¬ Has ns nm 0 := fun ⟨_, h, _⟩ => absurd h (Nat.not_lt_zero _)
theorem Has.not_step {ns : List ByteArray} {nm : ByteArray} {k : Nat} (h : ¬ Has ns nm k) (hk : ¬ (ns.getD k ByteArray.empty).toList = nm.toList) : ¬ Has ns nm (k + 1) := by
  rintro ⟨i, hi, e⟩
  by_cases ek : i = k
  · exact hk (ek ▸ e)
  · exact h ⟨i, by omega, e⟩

set_option maxHeartbeats 1000000 in
theorem allows_any (rb b0 c0 b1 c1 : Nat) (q0 : List Nat) (s0 : List ByteArray) (q1 : List Nat) (s1 : List ByteArray) (nm : ByteArray) (w : World)
    (hn0 : s0.length ≤ 1048576) (hn1 : s1.length ≤ 1048577)
    (hr0 : w.cell? ⟨rb, 1, none⟩ = some (.slice (some ⟨b0, 0, none⟩) s0.length c0)) (hr1 : w.cell? ⟨rb, 2, none⟩ = some (.slice (some ⟨b1, 0, none⟩) s1.length c1))
    (h0 : Cols w b0 q0 s0) (h1 : Cols w b1 q1 s1) :
    Calls Trym.prog 33 #[.pointer (some ⟨rb, 0, none⟩), .string nm] w fun e w' => Tells (Has s0 nm s0.length ∨ Has s1 nm s1.length) e ∧ Below w.heap.size w w' := by
  obtain ⟨n0, hnn0⟩ : ∃ n, s0.length = n := ⟨_, rfl⟩
  obtain ⟨n1, hnn1⟩ : ∃ n, s1.length = n := ⟨_, rfl⟩
  have P0 : Hid (∀ i, i < n0 → w.cell? ⟨b0, i, none⟩ = some (.pointer (some ⟨q0.getD i 0, 0, none⟩)) ∧ w.cell? ⟨q0.getD i 0, 0, none⟩ = some (.string (s0.getD i ByteArray.empty)) ∧ b0 < w.heap.size ∧ q0.getD i 0 < w.heap.size) := by
    rw [← hnn0]; exact fun i hi => ⟨h0.ptr i hi, (h0.name i hi).cell, World.block_lt_of_cell? w _ (h0.ptr i hi), (h0.name i hi).lt⟩
  have P1 : Hid (∀ i, i < n1 → w.cell? ⟨b1, i, none⟩ = some (.pointer (some ⟨q1.getD i 0, 0, none⟩)) ∧ w.cell? ⟨q1.getD i 0, 0, none⟩ = some (.string (s1.getD i ByteArray.empty)) ∧ b1 < w.heap.size ∧ q1.getD i 0 < w.heap.size) := by
    rw [← hnn1]; exact fun i hi => ⟨h1.ptr i hi, (h1.name i hi).cell, World.block_lt_of_cell? w _ (h1.ptr i hi), (h1.name i hi).lt⟩
  rw [hnn0] at hn0 hr0 ⊢
  rw [hnn1] at hn1 hr1 ⊢
  clear hnn0 hnn1 h0 h1
  obtain ⟨Q, hQ⟩ : ∃ Q, Q = (Has s0 nm n0 ∨ Has s1 nm n1) := ⟨_, rfl⟩
  rw [← hQ]
  have Y0 : Hid (Has s0 nm n0 → Q) := by rw [hQ]; exact Or.inl
  have Y1 : Hid (Has s1 nm n1 → Q) := by rw [hQ]; exact Or.inr
  have NO : Hid (¬ Has s0 nm n0 → ¬ Has s1 nm n1 → ¬ Q) := by rw [hQ]; exact fun a b h => h.elim a b
  clear hQ
  go_enter Trym.func33, Trym.ntmps33
  go_wp2
  go_region
  go_wp2
  go_loop [19] (fun i => ∃ j : Nat, j ≤ 2 ∧ i = .int .i64 j ∧ Hid (1 ≤ j → ¬ Has s0 nm n0) ∧ Hid (2 ≤ j → ¬ Has s1 nm n1)) (fun i => 2 - (intOf i).toNat)
  case atStart => exact ⟨0, by omega, rfl, fun h => absurd h (by omega), fun h => absurd h (by omega)⟩
  case round =>
    obtain ⟨j, hj, rfl, A0, A1⟩ := hrel
    rcases (show j = 0 ∨ j = 1 ∨ j = 2 by omega) with rfl | rfl | rfl
    ·   clear A0 A1
        go_wp2
        go_loop [25] (fun i => ∃ k : Nat, k ≤ n0 ∧ i = .int .i64 k ∧ ¬ Has s0 nm k) (fun i => n0 - (intOf i).toNat)
        case atStart => exact ⟨0, Nat.zero_le _, rfl, Has.zero⟩
        case round =>
          obtain ⟨k, hk, rfl, hh⟩ := hrel
          have HH : Hid (¬ Has s0 nm k) := hh
          clear hh
          by_cases hlt : k < n0
          · obtain ⟨g1, g2, g3, g4⟩ := P0.out k hlt
            have HY : Hid ((s0.getD k ByteArray.empty).toList = nm.toList → Q) := fun e => Y0.out ⟨k, hlt, e⟩
            have HN : Hid (¬ (s0.getD k ByteArray.empty).toList = nm.toList → ¬ Has s0 nm (k + 1)) := Has.not_step HH.out
            obtain ⟨q, hq⟩ : ∃ q, q0.getD k 0 = q := ⟨_, rfl⟩
            obtain ⟨s, hs⟩ : ∃ s, s0.getD k ByteArray.empty = s := ⟨_, rfl⟩
            rw [hq] at g1 g2 g4
            rw [hs] at g2 HY HN
            clear hq hs
            by_cases e : s.toList = nm.toList
            · have eb : (s.toList == nm.toList) = true := by rw [e]; simp
              have HYY : Hid Q := HY.out e
              clear e
              go_wp2
              go_ret
              exact ⟨Tells.yes HYY.out, ((Below.refl _ _).alloc (Nat.le_refl _) _).drew⟩
            · have eb : (s.toList == nm.toList) = false := by simpa using e
              have HNN : Hid (¬ Has s0 nm (k + 1)) := HN.out e
              clear e
              go_wp2
              go_round
              case rel => exact ⟨k + 1, by omega, by go_num, HNN.out⟩
              case measure => simp [intOf]; omega
          · have hkn : k = n0 := by omega
            have HN : Hid (¬ Has s0 nm n0) := by rw [← hkn]; exact HH.out
            clear hkn
            go_wp2
            go_round
            case rel => exact ⟨1, by omega, by go_num, fun _ => HN.out, fun h => absurd h (by omega)⟩
            case measure => simp [intOf]
    ·   have B0 : Hid (¬ Has s0 nm n0) := A0.out (by omega)
        clear A0 A1
        go_wp2
        go_loop [25] (fun i => ∃ k : Nat, k ≤ n1 ∧ i = .int .i64 k ∧ ¬ Has s1 nm k) (fun i => n1 - (intOf i).toNat)
        case atStart => exact ⟨0, Nat.zero_le _, rfl, Has.zero⟩
        case round =>
          obtain ⟨k, hk, rfl, hh⟩ := hrel
          have HH : Hid (¬ Has s1 nm k) := hh
          clear hh
          by_cases hlt : k < n1
          · obtain ⟨g1, g2, g3, g4⟩ := P1.out k hlt
            have HY : Hid ((s1.getD k ByteArray.empty).toList = nm.toList → Q) := fun e => Y1.out ⟨k, hlt, e⟩
            have HN : Hid (¬ (s1.getD k ByteArray.empty).toList = nm.toList → ¬ Has s1 nm (k + 1)) := Has.not_step HH.out
            obtain ⟨q, hq⟩ : ∃ q, q1.getD k 0 = q := ⟨_, rfl⟩
            obtain ⟨s, hs⟩ : ∃ s, s1.getD k ByteArray.empty = s := ⟨_, rfl⟩
            rw [hq] at g1 g2 g4
            rw [hs] at g2 HY HN
            clear hq hs
            by_cases e : s.toList = nm.toList
            · have eb : (s.toList == nm.toList) = true := by rw [e]; simp
              have HYY : Hid Q := HY.out e
              clear e
              go_wp2
              go_ret
              exact ⟨Tells.yes HYY.out, ((Below.refl _ _).alloc (Nat.le_refl _) _).drew⟩
            · have eb : (s.toList == nm.toList) = false := by simpa using e
              have HNN : Hid (¬ Has s1 nm (k + 1)) := HN.out e
              clear e
              go_wp2
              go_round
              case rel => exact ⟨k + 1, by omega, by go_num, HNN.out⟩
              case measure => simp [intOf]; omega
          · have hkn : k = n1 := by omega
            have HN : Hid (¬ Has s1 nm n1) := by rw [← hkn]; exact HH.out
            clear hkn
            go_wp2
            go_round
            case rel => exact ⟨2, by omega, by go_num, fun _ => B0.out, fun _ => HN.out⟩
            case measure => simp [intOf]
    ·   have HN : Hid (¬ Q) := NO.out (A0.out (by omega)) (A1.out (by omega))
        clear A0 A1
        go_wp2
        go_ret
        exact ⟨Tells.no HN.out, ((Below.refl _ _).alloc (Nat.le_refl _) _).drew⟩

end Go.Proofs.Qxb6001828aMods
