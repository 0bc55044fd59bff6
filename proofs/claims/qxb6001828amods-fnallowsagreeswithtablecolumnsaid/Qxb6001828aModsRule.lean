/-
  The walks of mustHold, ZZMustHold, allows, ZZAllows and Table.Column over slices of columns.
-/
import Derived.Test.Qxb6001828aModsStrs
import Derived.RegionTactic
import Derived.ChangeAlike
import Derived.LaidEqlPtr
namespace Go.Proofs.Qxb6001828aMods
open Go.RowKit

/-- The row at block b, from its head on, leads to the columns at the heads of the blocks qs; column i bears the name i. -/
structure Cols (w : World) (b : Nat) (qs : List Nat) (ns : List ByteArray) : Prop where
  len : qs.length = ns.length
  ptr : ∀ i, i < ns.length → w.cell? ⟨b, i, none⟩ = some (.pointer (some ⟨qs.getD i 0, 0, none⟩))
  name : ∀ i, i < ns.length → ColAt w (qs.getD i 0) (ns.getD i ByteArray.empty)

/-- It answers whether P holds. -/
def Tells (P : Prop) (e : Ending) : Prop := ∃ b : Bool, e = .returned (.bool b) ∧ (b = true ↔ P)
theorem Tells.yes {P : Prop} (h : P) : Tells P (.returned (.bool true)) := ⟨true, rfl, fun _ => h, fun _ => rfl⟩
theorem Tells.no {P : Prop} (h : ¬ P) : Tells P (.returned (.bool false)) := ⟨false, rfl, fun e => Bool.noConfusion e, fun e => absurd e h⟩

/-- One of the first k columns is the one at block cb. -/
def Leads (qs : List Nat) (cb k : Nat) : Prop := ∃ i, i < k ∧ qs.getD i 0 = cb
theorem Leads.zero {qs : List Nat} {cb : Nat} : ¬ Leads qs cb 0 := fun ⟨_, h, _⟩ => absurd h (Nat.not_lt_zero _)
theorem Leads.not_step {qs : List Nat} {cb k : Nat} (h : ¬ Leads qs cb k) (hk : ¬ qs.getD k 0 = cb) : ¬ Leads qs cb (k + 1) := by
  rintro ⟨i, hi, e⟩
  by_cases ek : i = k
  · exact hk (ek ▸ e)
  · exact h ⟨i, by omega, e⟩

theorem Trym.info44 : (Trym.prog.info? 44).map (fun i => i.size) = some 13 := by kernel_rfl

theorem ptr_same (a : Addr) (w : World) : (binOp .eql 36 (.pointer (some a)) (.pointer (some a))).run Trym.prog w = .ok (.bool true) w := by
  obtain ⟨j, hj, _⟩ := Option.map_eq_some_iff.1 Trym.info44
  exact run_eql_ptr_same w a Trym.underlying36 hj
theorem ptr_other {q cb : Nat} {s t : ByteArray} {w : World} (hne : ¬ q = cb) (h1 : ColAt w q s) (h2 : ColAt w cb t) : (binOp .eql 36 (.pointer (some ⟨q, 0, none⟩)) (.pointer (some ⟨cb, 0, none⟩))).run Trym.prog w = .ok (.bool false) w := by
  obtain ⟨j, hj, hs⟩ := Option.map_eq_some_iff.1 Trym.info44
  obtain ⟨c1, e1, _⟩ := h1
  obtain ⟨c2, e2, _⟩ := h2
  exact run_eql_ptr_other w Trym.underlying36 hj (by rw [hs]; decide) (fun e => hne (by cases e; rfl)) e1 e2

set_option maxHeartbeats 1000000 in
theorem mustHold_any (rb b cap cb : Nat) (qs : List Nat) (ns : List ByteArray) (t : ByteArray) (w : World) (hn : ns.length ≤ 1048576) (hr : w.cell? ⟨rb, 1, none⟩ = some (.slice (some ⟨b, 0, none⟩) ns.length cap))
    (hc : Cols w b qs ns) (ht : ColAt w cb t) :
    Calls Trym.prog 34 #[.pointer (some ⟨rb, 0, none⟩), .pointer (some ⟨cb, 0, none⟩)] w fun e w' => Tells (Leads qs cb ns.length) e ∧ w' = w := by
  obtain ⟨n, hnn⟩ : ∃ n, ns.length = n := ⟨_, rfl⟩
  have HP : Hid (∀ i, i < n → w.cell? ⟨b, i, none⟩ = some (.pointer (some ⟨qs.getD i 0, 0, none⟩))) := by rw [← hnn]; exact hc.ptr
  have HC : Hid (∀ i, i < n → ColAt w (qs.getD i 0) (ns.getD i ByteArray.empty)) := by rw [← hnn]; exact hc.name
  rw [hnn] at hn hr ⊢
  clear hnn hc
  go_enter Trym.func34, Trym.ntmps34
  go_wp2
  go_loop [12] (fun i => ∃ k : Nat, k ≤ n ∧ i = .int .i64 k ∧ ¬ Leads qs cb k) (fun i => n - (intOf i).toNat)
  case atStart => exact ⟨0, Nat.zero_le _, rfl, Leads.zero⟩
  case round =>
    obtain ⟨k, hk, rfl, hl⟩ := hrel
    have HL : Hid (¬ Leads qs cb k) := hl
    clear hl
    by_cases hlt : k < n
    · have g := HP.out k hlt
      have gc := HC.out k hlt
      by_cases e : qs.getD k 0 = cb
      · have HY : Hid (Leads qs cb n) := ⟨k, hlt, e⟩
        rw [e] at g
        clear e gc
        have heq := ptr_same ⟨cb, 0, none⟩ w
        go_wp2
        go_ret
        exact ⟨Tells.yes HY.out, rfl⟩
      · have HN : Hid (¬ Leads qs cb (k + 1)) := Leads.not_step HL.out e
        obtain ⟨q, hq⟩ : ∃ q, qs.getD k 0 = q := ⟨_, rfl⟩
        rw [hq] at g e gc
        have heq := ptr_other e gc ht
        clear hq e gc
        go_wp2
        go_round
        case rel => exact ⟨k + 1, by omega, by go_num, HN.out⟩
        case measure => simp [intOf]; omega
    · have hkn : k = n := by omega
      have HN : Hid (¬ Leads qs cb n) := by rw [← hkn]; exact HL.out
      clear hkn
      go_wp2
      go_ret
      exact ⟨Tells.no HN.out, rfl⟩

end Go.Proofs.Qxb6001828aMods
