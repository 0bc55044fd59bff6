/-
  The walks of kindValue, ZZKindValue, Kind.Comparable, Op.ordered and Kind.Takes (at Equal): each computes a plain function.
-/
import Derived.Test.Qxb6001828aModsRows
import Derived.WalkKit
import Derived.WalkSpells
import Derived.WalkLawsBesides
namespace Go.Proofs.Qxb6001828aMods
open Go.RowKit

/-- What kindValue answers, as bytes. -/
def kvBytes (k : Int) : List UInt8 :=
  if k = 0 then [97, 110, 32, 105, 110, 116, 101, 103, 101, 114]
  else if k = 1 then [97, 32, 110, 117, 109, 98, 101, 114]
  else if k = 2 then [97, 32, 115, 116, 114, 105, 110, 103]
  else if k = 3 then [97, 32, 115, 116, 114, 105, 110, 103, 32, 119, 114, 105, 116, 116, 101, 110, 32, 89, 89, 89, 89, 45, 77, 77, 45, 68, 68, 32, 72, 72, 58, 77, 77, 58, 83, 83]
  else if k = 4 then [116, 114, 117, 101, 32, 111, 114, 32, 102, 97, 108, 115, 101]
  else [110, 111, 32, 118, 97, 108, 117, 101]

set_option maxHeartbeats 400000 in
theorem kindValue_any (k : Int) (w : World) :
    Calls Trym.prog 29 #[.int .i64 k] w fun e w' => (∃ s : ByteArray, e = .returned (.string s) ∧ s.toList = kvBytes k) ∧ w' = w := by
  by_cases h0 : k = 0
  · subst h0
    go_enter Trym.func29, Trym.ntmps29
    go_wp2
    go_ret
    exact ⟨⟨_, rfl, by decide +kernel⟩, rfl⟩
  by_cases h1 : k = 1
  · subst h1
    go_enter Trym.func29, Trym.ntmps29
    go_wp2
    go_ret
    exact ⟨⟨_, rfl, by decide +kernel⟩, rfl⟩
  by_cases h2 : k = 2
  · subst h2
    go_enter Trym.func29, Trym.ntmps29
    go_wp2
    go_ret
    exact ⟨⟨_, rfl, by decide +kernel⟩, rfl⟩
  by_cases h3 : k = 3
  · subst h3
    go_enter Trym.func29, Trym.ntmps29
    go_wp2
    go_ret
    exact ⟨⟨_, rfl, by decide +kernel⟩, rfl⟩
  by_cases h4 : k = 4
  · subst h4
    go_enter Trym.func29, Trym.ntmps29
    go_wp2
    go_ret
    exact ⟨⟨_, rfl, by decide +kernel⟩, rfl⟩
  · have e0 : (k == 0) = false := by simpa using h0
    have e1 : (k == 1) = false := by simpa using h1
    have e2 : (k == 2) = false := by simpa using h2
    have e3 : (k == 3) = false := by simpa using h3
    have e4 : (k == 4) = false := by simpa using h4
    have hk : Hid (kvBytes k = [110, 111, 32, 118, 97, 108, 117, 101]) := by unfold Hid kvBytes; simp only [h0, h1, h2, h3, h4, if_false]
    clear h0 h1 h2 h3 h4
    go_enter Trym.func29, Trym.ntmps29
    go_wp2
    go_ret
    exact ⟨⟨_, rfl, by rw [hk.out]; decide +kernel⟩, rfl⟩

set_option maxHeartbeats 400000 in
theorem zzKindValue_any (k : Int) (w : World) :
    Calls Trym.prog 12 #[.int .i64 k] w fun e w' => (∃ s : ByteArray, e = .returned (.string s) ∧ s.toList = kvBytes k) ∧ w' = w := by
  go_enter Trym.func12, Trym.ntmps12
  go_wp2_with (go_at_call 29; refine (kindValue_any _ _).mono ?_; rintro e w' ⟨⟨s, rfl, hs⟩, rfl⟩; have HS : Hid (s.toList = kvBytes k) := hs; clear hs)
  go_ret
  exact ⟨⟨_, rfl, HS.out⟩, rfl⟩


/-- Does kind k take '='? -/
def takesEq (k : Int) : Bool := k != 5 && k != 6

set_option maxHeartbeats 400000 in
theorem ordered_zero (w : World) :
    Calls Trym.prog 31 #[.int .i64 0] w fun e w' => e = .returned (.bool false) ∧ w' = w := by
  go_enter Trym.func31, Trym.ntmps31
  go_wp2
  go_ret
  exact ⟨rfl, rfl⟩

set_option maxHeartbeats 400000 in
theorem comparable_any (k : Int) (w : World) :
    Calls Trym.prog 30 #[.int .i64 k] w fun e w' => e = .returned (.bool (takesEq k)) ∧ w' = w := by
  by_cases h5 : k = 5
  · subst h5
    go_enter Trym.func30, Trym.ntmps30
    go_wp2
    go_ret
    exact ⟨rfl, rfl⟩
  by_cases h6 : k = 6
  · subst h6
    go_enter Trym.func30, Trym.ntmps30
    go_wp2
    go_ret
    exact ⟨rfl, rfl⟩
  · have e5 : (k != 5) = true := by simpa using h5
    have e6 : (k != 6) = true := by simpa using h6
    have hk : Hid (takesEq k = true) := by unfold Hid takesEq; simp [e5, e6]
    clear h5 h6
    go_enter Trym.func30, Trym.ntmps30
    go_wp2
    go_ret
    exact ⟨by rw [hk.out]; rfl, rfl⟩

set_option maxHeartbeats 400000 in
theorem takes_zero (k : Int) (w : World) :
    Calls Trym.prog 13 #[.int .i64 k, .int .i64 0] w fun e w' => e = .returned (.bool (takesEq k)) ∧ w' = w := by
  obtain ⟨b, hb⟩ : ∃ b, takesEq k = b := ⟨_, rfl⟩
  have hc := fun w => comparable_any k w
  rw [hb] at hc ⊢
  have H := hc; clear hc hb
  cases b
  · go_enter Trym.func13, Trym.ntmps13
    go_wp2_with (go_at_call 30; refine (H _).mono ?_; rintro e w' ⟨rfl, rfl⟩)
    go_ret
    exact ⟨rfl, rfl⟩
  · go_enter Trym.func13, Trym.ntmps13
    go_wp2_with (first | (go_at_call 30; refine (H _).mono ?_; rintro e w' ⟨rfl, rfl⟩) | (go_at_call 31; refine (ordered_zero _).mono ?_; rintro e w' ⟨rfl, rfl⟩))
    go_ret
    exact ⟨rfl, rfl⟩

end Go.Proofs.Qxb6001828aMods
