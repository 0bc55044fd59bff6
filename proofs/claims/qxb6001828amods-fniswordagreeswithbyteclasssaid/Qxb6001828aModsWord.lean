/-
  The walks of isWordByte, isWord, ZZIsWord and zzBytes_FnIsWordAgreesWithByteClass.
-/
import Derived.Test.Qxb6001828aModsRows
import Derived.WalkKit
import Derived.WalkSpells
import Derived.WalkLawsBesides
namespace Go.Proofs.Qxb6001828aMods
open Go.RowKit

/-- Is the number an ASCII letter, digit or underscore? -/
def wordN (n : Int) : Bool := (decide (65 ≤ n) && decide (n ≤ 90)) || (decide (97 ≤ n) && decide (n ≤ 122)) || (decide (48 ≤ n) && decide (n ≤ 57)) || (n == 95)
/-- Are all bytes of the list such? -/
def allWord (l : List UInt8) : Bool := l.all fun c => wordN c.toNat

theorem wordN_yes {n : Int} (h : (65 ≤ n ∧ n ≤ 90) ∨ (97 ≤ n ∧ n ≤ 122) ∨ (48 ≤ n ∧ n ≤ 57) ∨ n = 95) : wordN n = true := by
  unfold wordN
  simp only [Bool.or_eq_true, Bool.and_eq_true, decide_eq_true_eq, beq_iff_eq]
  omega
theorem wordN_no {n : Int} (h : n < 48 ∨ (57 < n ∧ n < 65) ∨ (90 < n ∧ n < 95) ∨ n = 96 ∨ 122 < n) : wordN n = false := by
  have : ¬ wordN n = true := by
    unfold wordN
    simp only [Bool.or_eq_true, Bool.and_eq_true, decide_eq_true_eq, beq_iff_eq]
    omega
  simpa using this
theorem wordN_cases (n : Int) : (n < 48 ∨ (57 < n ∧ n < 65) ∨ (90 < n ∧ n < 95) ∨ n = 96 ∨ 122 < n) ∨ ((65 ≤ n ∧ n ≤ 90) ∨ (97 ≤ n ∧ n ≤ 122) ∨ (48 ≤ n ∧ n ≤ 57) ∨ n = 95) := by omega

set_option maxHeartbeats 400000 in
theorem isWordByte_any (n : Int) (w : World) :
    Calls Trym.prog 17 #[.int .u8 n] w fun e w' => e = .returned (.bool (wordN n)) ∧ w' = w := by
  rcases wordN_cases n with h | h
  · have hn : Hid (wordN n = false) := wordN_no h
    have h95 : (n == 95) = false := by simp only [beq_eq_false_iff_ne, ne_eq]; omega
    rcases h with h | h | h | h | h
    all_goals
      go_enter Trym.func17, Trym.ntmps17
      go_wp2
      go_ret
      exact ⟨by rw [hn.out]; rfl, rfl⟩
  · have hn : Hid (wordN n = true) := wordN_yes h
    rcases h with h | h | h | h
    all_goals
      go_enter Trym.func17, Trym.ntmps17
      go_wp2
      go_ret
      exact ⟨by rw [hn.out]; rfl, rfl⟩


/-! ### isWord: the range over the string -/
theorem take_snoc (s : ByteArray) (k : Nat) (h : k < s.size) : s.data.toList.take (k + 1) = s.data.toList.take k ++ [s[k]] := by
  rw [List.take_succ_eq_append_getElem (by simpa using h)]; rfl
theorem allWord_snoc (l : List UInt8) (c : UInt8) : allWord (l ++ [c]) = (allWord l && wordN c.toNat) := by
  unfold allWord
  rw [List.all_append]
  simp
theorem allWord_false {s : ByteArray} {k : Nat} (h : k < s.size) (hc : wordN (s[k]'h).toNat = false) : allWord s.data.toList = false := by
  unfold allWord
  rw [List.all_eq_false]
  exact ⟨s[k]'h, by simp [ByteArray.getElem_eq_getElem_data], by rw [hc]; simp⟩

/-- The step of the range: the rune is a word's exactly where the byte is; then it is one byte wide. -/
theorem next_step (w : World) (s : ByteArray) (pos : Nat) (h : pos < s.size) : ∃ r wd : Nat,
    (∀ ty, (Instr.next (.pointer (some ⟨w.heap.size, 0, none⟩)) true ty).run Trym.prog (w.iter s pos) = .ok (.tuple #[.bool true, .int .i64 pos, .int .i32 r]) (w.iter s (pos + wd))) ∧
    (wordN r = true → wd = 1 ∧ r = (s[pos]'h).toNat) ∧ (wordN r = false → wordN (s[pos]'h).toNat = false) := by
  by_cases ha : (s[pos]'h).toNat < 128
  · exact ⟨_, 1, fun ty => run_next_ascii w s pos ty h ha, fun _ => ⟨rfl, rfl⟩, fun e => e⟩
  · have hd := decode_high s pos h (by omega)
    have hn : wordN ((Utf8.decode s pos).1 : Int) = false := wordN_no (by omega)
    exact ⟨_, _, fun ty => run_next_any w s pos ty h, fun e => absurd (hn.symm.trans e) (by decide), fun _ => wordN_no (by omega)⟩

set_option maxHeartbeats 1000000 in
theorem isWord_any (s : ByteArray) (w : World) :
    Calls Trym.prog 32 #[.string s] w fun e w' => e = .returned (.bool (allWord s.data.toList)) ∧ ∃ pos, w' = w.iter s pos := by
  go_enter Trym.func32, Trym.ntmps32
  go_wp2
  go_loopw [4] (fun _ w' => ∃ pos : Nat, pos ≤ s.size ∧ allWord (s.data.toList.take pos) = true ∧ w' = w.iter s pos) (fun _ w' => s.size - w'.iterPos w.heap.size)
  case atStart => exact ⟨0, Nat.zero_le _, rfl, rfl⟩
  case round =>
    obtain ⟨pos, hp0, hall, rfl⟩ := hrel
    have HALL : Hid (allWord (s.data.toList.take pos) = true) := hall
    clear hall
    by_cases hp : pos < s.size
    · obtain ⟨r, wd, hnx, h1, h2⟩ := next_step w s pos hp
      rcases wordN_cases (r : Int) with hr | hr
      · have HN : Hid (allWord s.data.toList = false) := allWord_false hp (h2 (wordN_no hr))
        have h95 : ((r : Int) == 95) = false := by simp only [beq_eq_false_iff_ne, ne_eq]; omega
        clear h1 h2
        rcases hr with hr | hr | hr | hr | hr
        · go_wp2
          go_ret
          exact ⟨by rw [HN.out]; rfl, _, rfl⟩
        · have d57 : decide ((r : Int) ≤ 57) = false := decide_eq_false (by omega)
          go_wp2
          go_ret
          exact ⟨by rw [HN.out]; rfl, _, rfl⟩
        · have d57 : decide ((r : Int) ≤ 57) = false := decide_eq_false (by omega)
          have d90 : decide ((r : Int) ≤ 90) = false := decide_eq_false (by omega)
          go_wp2
          go_ret
          exact ⟨by rw [HN.out]; rfl, _, rfl⟩
        · go_wp2
          go_ret
          exact ⟨by rw [HN.out]; rfl, _, rfl⟩
        · have d57 : decide ((r : Int) ≤ 57) = false := decide_eq_false (by omega)
          have d90 : decide ((r : Int) ≤ 90) = false := decide_eq_false (by omega)
          have d122 : decide ((r : Int) ≤ 122) = false := decide_eq_false (by omega)
          go_wp2
          go_ret
          exact ⟨by rw [HN.out]; rfl, _, rfl⟩
      · obtain ⟨rfl, hrr⟩ := h1 (wordN_yes hr)
        have HS : Hid (allWord (s.data.toList.take (pos + 1)) = true) := by
          show allWord (s.data.toList.take (pos + 1)) = true
          rw [take_snoc s pos hp, allWord_snoc, HALL.out, ← hrr, wordN_yes hr]
          rfl
        clear h1 h2 hrr
        rcases hr with hr | hr | hr | hr
        all_goals
          go_wp2
          go_roundw
          case rel => exact ⟨pos + 1, by omega, HS.out, rfl⟩
          case measure => simp; omega
    · have hnx : ∀ ty, (Instr.next (.pointer (some ⟨w.heap.size, 0, none⟩)) true ty).run Trym.prog (w.iter s pos) = _ := fun ty => run_next_end w s pos ty hp
      have HN : Hid (allWord s.data.toList = true) := by
        have := HALL.out
        rw [List.take_of_length_le (by simp; omega)] at this
        exact this
      go_wp2
      go_ret
      exact ⟨by rw [HN.out]; rfl, _, rfl⟩

set_option maxHeartbeats 400000 in
theorem zzIsWord_any (s : ByteArray) (w : World) :
    Calls Trym.prog 15 #[.string s] w fun e w' => e = .returned (.bool (allWord s.data.toList)) ∧ ∃ pos, w' = w.iter s pos := by
  obtain ⟨b, hb⟩ : ∃ b, allWord s.data.toList = b := ⟨_, rfl⟩
  have H := fun w => isWord_any s w
  rw [hb] at H ⊢
  clear hb
  go_enter Trym.func15, Trym.ntmps15
  go_wp2_with (go_at_call 32; refine (H _).mono ?_; rintro e w' ⟨rfl, pos, rfl⟩)
  go_ret
  exact ⟨rfl, _, rfl⟩

set_option maxHeartbeats 400000 in
theorem zzBytes16_yes (s : ByteArray) (h : s.size ≤ 1048576) (w : World) :
    Calls Trym.prog 16 #[.string s] w fun e w' => e = .returned (.bool true) ∧ w' = w := by
  go_enter Trym.func16, Trym.ntmps16
  go_wp2
  go_ret
  exact ⟨rfl, rfl⟩
set_option maxHeartbeats 400000 in
theorem zzBytes16_no (s : ByteArray) (h : ¬ s.size ≤ 1048576) (w : World) :
    Calls Trym.prog 16 #[.string s] w fun e w' => e = .returned (.bool false) ∧ w' = w := by
  go_enter Trym.func16, Trym.ntmps16
  go_wp2
  go_ret
  exact ⟨rfl, rfl⟩

end Go.Proofs.Qxb6001828aMods
