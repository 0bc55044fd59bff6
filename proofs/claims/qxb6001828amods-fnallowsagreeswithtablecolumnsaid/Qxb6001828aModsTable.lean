/-
  The walk of Table.Column over a slice of columns.
-/
import Derived.Test.Qxb6001828aModsAllow
namespace Go.Proofs.Qxb6001828aMods
open Go.RowKit

/-- It answers a pointer, nil exactly where P does not hold. -/
def Finds (P : Prop) (e : Ending) : Prop := ∃ p : Option Addr, e = .returned (.pointer p) ∧ (p.isNone = false ↔ P)
theorem Finds.yes {P : Prop} {a : Addr} (h : P) : Finds P (.returned (.pointer (some a))) := ⟨some a, rfl, fun _ => h, fun _ => rfl⟩
theorem Finds.no {P : Prop} (h : ¬ P) : Finds P (.returned (.pointer none)) := ⟨none, rfl, fun e => Bool.noConfusion e, fun e => absurd e h⟩

set_option maxHeartbeats 1000000 in
theorem column_empty (tb : Nat) (a : Option Addr) (n cap : Nat) (hn : n ≤ 0) (ns : List ByteArray) (nm : ByteArray) (w : World) (hr : w.cell? ⟨tb, 1, none⟩ = some (.slice a n cap)) :
    Calls Trym.prog 22 #[.pointer (some ⟨tb, 0, none⟩), .string nm] w fun e w' => Finds (Has ns nm n) e ∧ w' = w := by
  have HN : Hid (¬ Has ns nm n) := fun ⟨i, hi, _⟩ => absurd hi (by omega)
  go_enter Trym.func22, Trym.ntmps22
  go_wp2
  go_loop [12] (fun i => ∃ k : Nat, k ≤ n ∧ i = .int .i64 k) (fun i => n - (intOf i).toNat)
  case atStart => exact ⟨0, Nat.zero_le _, rfl⟩
  case round =>
    obtain ⟨k, hk, rfl⟩ := hrel
    go_wp2
    go_ret
    exact ⟨Finds.no HN.out, rfl⟩

set_option maxHeartbeats 1000000 in
theorem column_any (tb b cap : Nat) (qs : List Nat) (ns : List ByteArray) (nm : ByteArray) (w : World) (hn : ns.length ≤ 2097152) (hr : w.cell? ⟨tb, 1, none⟩ = some (.slice (some ⟨b, 0, none⟩) ns.length cap)) (h : Cols w b qs ns) :
    Calls Trym.prog 22 #[.pointer (some ⟨tb, 0, none⟩), .string nm] w fun e w' => Finds (Has ns nm ns.length) e ∧ w' = w := by
  obtain ⟨n, hnn⟩ : ∃ n, ns.length = n := ⟨_, rfl⟩
  have P : Hid (∀ i, i < n → w.cell? ⟨b, i, none⟩ = some (.pointer (some ⟨qs.getD i 0, 0, none⟩)) ∧ w.cell? ⟨qs.getD i 0, 0, none⟩ = some (.string (ns.getD i ByteArray.empty))) := by
    rw [← hnn]; exact fun i hi => ⟨h.ptr i hi, (h.name i hi).cell⟩
  rw [hnn] at hn hr ⊢
  clear hnn h
  go_enter Trym.func22, Trym.ntmps22
  go_wp2
  go_loop [12] (fun i => ∃ k : Nat, k ≤ n ∧ i = .int .i64 k ∧ ¬ Has ns nm k) (fun i => n - (intOf i).toNat)
  case atStart => exact ⟨0, Nat.zero_le _, rfl, Has.zero⟩
  case round =>
    obtain ⟨k, hk, rfl, hh⟩ := hrel
    have HH : Hid (¬ Has ns nm k) := hh
    clear hh
    by_cases hlt : k < n
    · obtain ⟨g1, g2⟩ := P.out k hlt
      have HY : Hid ((ns.getD k ByteArray.empty).toList = nm.toList → Has ns nm n) := fun e => ⟨k, hlt, e⟩
      have HN : Hid (¬ (ns.getD k ByteArray.empty).toList = nm.toList → ¬ Has ns nm (k + 1)) := Has.not_step HH.out
      obtain ⟨q, hq⟩ : ∃ q, qs.getD k 0 = q := ⟨_, rfl⟩
      obtain ⟨s, hs⟩ : ∃ s, ns.getD k ByteArray.empty = s := ⟨_, rfl⟩
      rw [hq] at g1 g2
      rw [hs] at g2 HY HN
      clear hq hs
      by_cases e : s.toList = nm.toList
      · have eb : (s.toList == nm.toList) = true := by rw [e]; simp
        have HYY : Hid (Has ns nm n) := HY.out e
        clear e
        go_wp2
        go_ret
        exact ⟨Finds.yes HYY.out, rfl⟩
      · have eb : (s.toList == nm.toList) = false := by simpa using e
        have HNN : Hid (¬ Has ns nm (k + 1)) := HN.out e
        clear e
        go_wp2
        go_round
        case rel => exact ⟨k + 1, by omega, by go_num, HNN.out⟩
        case measure => simp [intOf]; omega
    · have hkn : k = n := by omega
      have HN : Hid (¬ Has ns nm n) := by rw [← hkn]; exact HH.out
      clear hkn
      go_wp2
      go_ret
      exact ⟨Finds.no HN.out, rfl⟩

end Go.Proofs.Qxb6001828aMods
