/-
  The walk of zzBytes_.. (function 18): where it says yes, lengths and sizes are at most 2^20.
-/
import Derived.Test.Qxb6001828aModsStrs
namespace Go.Proofs.Qxb6001828aMods
open Go.RowKit

set_option maxHeartbeats 2000000 in
theorem zzBytes18_any (a0 : Option Addr) (s0 : List ByteArray) (c0 : Nat) (a1 : Option Addr) (s1 : List ByteArray) (c1 : Nat) (x0 : ByteArray) (w : World) (h0 : StrsAt w a0 s0) (h1 : StrsAt w a1 s1)
    (l0 : s0.length ≤ maxLen) (l1 : s1.length ≤ maxLen) (m0 : ∀ i, i < s0.length → (s0.getD i ByteArray.empty).size ≤ maxLen) (m1 : ∀ i, i < s1.length → (s1.getD i ByteArray.empty).size ≤ maxLen) (q0 : x0.size ≤ maxLen) :
    Calls Trym.prog 18 #[.slice a0 s0.length c0, .slice a1 s1.length c1, .string x0] w fun e w' => Says (Small s0 ∧ Small s1 ∧ x0.size ≤ 1048576) e ∧ w' = w := by
  unfold StrsAt at h0 h1
  obtain ⟨P, hP⟩ : ∃ P, P = (Small s0 ∧ Small s1 ∧ x0.size ≤ 1048576) := ⟨_, rfl⟩
  rw [← hP]
  have HP : Hid (∀ n0 n1, s0.length = n0 → s1.length = n1 → n0 ≤ 1048576 → n1 ≤ 1048576 → Upto s0 n0 → Upto s1 n1 → x0.size ≤ 1048576 → P) := by
    intro n0 n1 e0 e1 u0 u1 v0 v1 y0
    rw [hP]
    exact ⟨Small.mk e0 u0 v0, Small.mk e1 u1 v1, y0⟩
  clear hP
  obtain ⟨n0, hn0⟩ : ∃ n, s0.length = n := ⟨_, rfl⟩
  obtain ⟨n1, hn1⟩ : ∃ n, s1.length = n := ⟨_, rfl⟩
  rw [hn0] at h0 l0 m0 ⊢
  rw [hn1] at h1 l1 m1 ⊢
  have HQ : Hid (n0 ≤ 1048576 → n1 ≤ 1048576 → Upto s0 n0 → Upto s1 n1 → x0.size ≤ 1048576 → P) := HP.out n0 n1 hn0 hn1
  clear HP
  have M0 : Hid (∀ i, i < n0 → (s0.getD i ByteArray.empty).size ≤ maxLen) := m0
  have M1 : Hid (∀ i, i < n1 → (s1.getD i ByteArray.empty).size ≤ maxLen) := m1
  unfold maxLen at l0 l1
  unfold maxLen at q0
  clear hn0 hn1 m0 m1
  have C0 : Hid (n0 ≤ 0 ∨ ∃ b off, a0 = some ⟨b, off, none⟩ ∧ ∀ i, i < n0 → w.cell? ⟨b, off + i, none⟩ = some (.string (s0.getD i ByteArray.empty))) := by
    rcases h0 with h | ⟨b, off, e, _, h⟩
    · exact .inl (by omega)
    · exact .inr ⟨b, off, e, h⟩
  have C1 : Hid (n1 ≤ 0 ∨ ∃ b off, a1 = some ⟨b, off, none⟩ ∧ ∀ i, i < n1 → w.cell? ⟨b, off + i, none⟩ = some (.string (s1.getD i ByteArray.empty))) := by
    rcases h1 with h | ⟨b, off, e, _, h⟩
    · exact .inl (by omega)
    · exact .inr ⟨b, off, e, h⟩
  clear h0 h1
  rcases C0.out with z0 | ⟨b0, o0, rfl, g0⟩ <;> rcases C1.out with z1 | ⟨b1, o1, rfl, g1⟩ <;> clear C0 C1
  all_goals
    try (have G0 : Hid (∀ i, i < n0 → w.cell? ⟨b0, o0 + i, none⟩ = some (.string (s0.getD i ByteArray.empty))) := g0; clear g0)
    try (have G1 : Hid (∀ i, i < n1 → w.cell? ⟨b1, o1 + i, none⟩ = some (.string (s1.getD i ByteArray.empty))) := g1; clear g1)
    by_cases t0 : 1048576 < n0
    · go_enter Trym.func18, Trym.ntmps18
      go_wp2
      all_goals (go_ret; exact ⟨Says.no _, rfl⟩)
    go_enter Trym.func18, Trym.ntmps18
    go_wp2
    go_loop [7, 8] (fun t i => ∃ k n : Nat, k ≤ n0 ∧ n ≤ 1048576 ∧ Upto s0 k ∧ i = .int .i64 k ∧ t = .int .i64 n) (fun _ i => n0 - (intOf i).toNat)
    case atStart => exact ⟨0, n0, by omega, by omega, Upto.zero _, rfl, rfl⟩
    case round =>
      obtain ⟨k, n, hk, hn, hup, rfl, rfl⟩ := hrel
      have H1 : Hid (Upto s0 k) := hup
      clear hup
      by_cases hlt : k < n0
      · first
        | (exfalso; omega)
        | (have g := G0.out k hlt
           have gm := M0.out k hlt
           unfold maxLen at gm
           have hst : Hid ((s0.getD k ByteArray.empty).size ≤ 1048576 → Upto s0 (k + 1)) := H1.out.step
           obtain ⟨s, hss⟩ : ∃ s, s0.getD k ByteArray.empty = s := ⟨_, rfl⟩
           rw [hss] at g gm hst
           clear hss
           go_wp2
           · go_ret
             exact ⟨Says.no _, rfl⟩
           · go_ret
             exact ⟨Says.no _, rfl⟩
           · go_round
             case rel => exact ⟨k + 1, n + s.size, by omega, by omega, hst.out (by omega), by go_num, by go_num⟩
             case measure => simp [intOf]; omega)
      · have hk0 : k = n0 := by omega
        have H1' : Hid (Upto s0 n0) := by rw [← hk0]; exact H1.out
        clear hk0 H1
        by_cases t1 : 1048576 < n1
        · go_wp2
          all_goals (go_ret; exact ⟨Says.no _, rfl⟩)
        by_cases t2 : 1048576 < n + n1
        · go_wp2
          all_goals (go_ret; exact ⟨Says.no _, rfl⟩)
        go_wp2
        go_loop [7, 9] (fun t i => ∃ k n : Nat, k ≤ n1 ∧ n ≤ 1048576 ∧ Upto s1 k ∧ i = .int .i64 k ∧ t = .int .i64 n) (fun _ i => n1 - (intOf i).toNat)
        case atStart => exact ⟨0, n + n1, by omega, by omega, Upto.zero _, rfl, by go_num⟩
        case round =>
          obtain ⟨k', n', hk', hn', hup', rfl, rfl⟩ := hrel
          have H2 : Hid (Upto s1 k') := hup'
          clear hup'
          by_cases hlt' : k' < n1
          · first
            | (exfalso; omega)
            | (have g := G1.out k' hlt'
               have gm := M1.out k' hlt'
               unfold maxLen at gm
               have hst : Hid ((s1.getD k' ByteArray.empty).size ≤ 1048576 → Upto s1 (k' + 1)) := H2.out.step
               obtain ⟨s, hss⟩ : ∃ s, s1.getD k' ByteArray.empty = s := ⟨_, rfl⟩
               rw [hss] at g gm hst
               clear hss
               go_wp2
               · go_ret
                 exact ⟨Says.no _, rfl⟩
               · go_ret
                 exact ⟨Says.no _, rfl⟩
               · go_round
                 case rel => exact ⟨k' + 1, n' + s.size, by omega, by omega, hst.out (by omega), by go_num, by go_num⟩
                 case measure => simp [intOf]; omega)
          · have hk1 : k' = n1 := by omega
            have H2' : Hid (Upto s1 n1) := by rw [← hk1]; exact H2.out
            clear hk1 H2
            have HF : Hid (x0.size ≤ 1048576 → P) := HQ.out (by omega) (by omega) H1'.out H2'.out
            go_wp2
            all_goals
              go_ret
              first | exact ⟨Says.no _, rfl⟩ | exact ⟨Says.yes (HF.out (by omega)), rfl⟩

end Go.Proofs.Qxb6001828aMods
