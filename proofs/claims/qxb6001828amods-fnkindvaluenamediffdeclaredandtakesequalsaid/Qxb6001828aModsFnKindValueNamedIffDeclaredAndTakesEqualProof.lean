/-
  'Rows.FnKindValueNamedIffDeclaredAndTakesEqualSaid', proved. The frame is the guide's shell for this function; the walk and the plain law are filled in.
-/
import Derived.Test.Qxb6001828aModsKind
import Derived.Test.Qxb6001828aModsHead
import Derived.WalkKit
import Derived.ProofKit
import Derived.OpenShut
import Derived.ShutString
namespace Go.Proofs.Qxb6001828aMods.fnKindValueNamedIffDeclaredAndTakesEqual
open Go.ChangeShapes Go.WideShapes Go.ChangeAt Go.RowKit
open Go.ChangeMaps (open_string shut_string)
set_option linter.unusedVariables false      -- a walk need not use every 'w<i>' (that an integer argument fits its kind)

theorem own : ownKnob Trym.prog.godebug = none := by kernel_rfl

/-! ### THE PLAIN LAW: no Go in sight -/
theorem plain_in {k : Int} (h0 : 0 ≤ k) (h6 : k ≤ 6) : ((!kvBytes k == [110, 111, 32, 118, 97, 108, 117, 101]) == takesEq k) = true := by
  have h : k = 0 ∨ k = 1 ∨ k = 2 ∨ k = 3 ∨ k = 4 ∨ k = 5 ∨ k = 6 := by omega
  rcases h with rfl | rfl | rfl | rfl | rfl | rfl | rfl <;> decide
theorem plain_out {k : Int} (h : k < 0 ∨ 6 < k) : (kvBytes k == [110, 111, 32, 118, 97, 108, 117, 101]) = true := by
  unfold kvBytes
  rw [if_neg (by omega), if_neg (by omega), if_neg (by omega), if_neg (by omega), if_neg (by omega)]
  decide

/-! ### STEP 1: THE WALK: the Go text returns true. 'Grown w w'': the world has at most new blocks (Derived/RowKit3.lean). Part the cases AHEAD of 'go_enter' where a test parts the walk; take each callee by a contract of your own. -/
theorem walk (a0 : Int) (w0 : (Lit.int .i64 a0).wf = true) (w : World) :
    Calls Trym.prog 3 #[.int .i64 a0] w fun e w' => e = .returned (.bool true) ∧ Grown w w' := by
  by_cases h0 : 0 ≤ a0
  · by_cases h6 : a0 ≤ 6
    · go_enter Trym.func3, Trym.ntmps3
      go_wp2_with (first | (go_at_call 12; refine (zzKindValue_any _ _).mono ?_; rintro e w' ⟨⟨s, rfl, hs⟩, rfl⟩; have HS : Hid (s.toList = kvBytes a0) := hs; clear hs) | (go_at_call 13; refine (takes_zero _ _).mono ?_; rintro e w' ⟨rfl, rfl⟩))
      go_ret
      refine ⟨?_, Grown.refl _⟩
      show Ending.returned (Value.bool ((!s.toList == [110, 111, 32, 118, 97, 108, 117, 101]) == takesEq a0)) = _
      rw [HS.out, plain_in h0 h6]
    · have hd : decide (a0 ≤ 6) = false := by simpa using h6
      go_enter Trym.func3, Trym.ntmps3
      go_wp2_with (first | (go_at_call 12; refine (zzKindValue_any _ _).mono ?_; rintro e w' ⟨⟨s, rfl, hs⟩, rfl⟩; have HS : Hid (s.toList = kvBytes a0) := hs; clear hs) | (go_at_call 13; refine (takes_zero _ _).mono ?_; rintro e w' ⟨rfl, rfl⟩))
      go_ret
      refine ⟨?_, Grown.refl _⟩
      show Ending.returned (Value.bool (s.toList == [110, 111, 32, 118, 97, 108, 117, 101])) = _
      rw [HS.out, plain_out (Or.inr h6)]
  · have hd : decide (0 ≤ a0) = false := by simpa using h0
    go_enter Trym.func3, Trym.ntmps3
    go_wp2_with (first | (go_at_call 12; refine (zzKindValue_any _ _).mono ?_; rintro e w' ⟨⟨s, rfl, hs⟩, rfl⟩; have HS : Hid (s.toList = kvBytes a0) := hs; clear hs) | (go_at_call 13; refine (takes_zero _ _).mono ?_; rintro e w' ⟨rfl, rfl⟩))
    go_ret
    refine ⟨?_, Grown.refl _⟩
    show Ending.returned (Value.bool (s.toList == [110, 111, 32, 118, 97, 108, 117, 101])) = _
    rw [HS.out, plain_out (Or.inl h0)]

/-! ### THE ROW's STEP: WRITTEN OUT: LEAVE IT -/
set_option maxRecDepth 100000 in
theorem lifted (os : Os) (started : os.Started) (H : Type) (enc : TypeId × Value → H) :
    ReturnsInHanded {} Trym.checked os 3 .any (Rows.fnKindValueNamedIffDeclaredAndTakesEqualSpec.pre6 enc Trym.prog Trym.f3 Rows.fnKindValueNamedIffDeclaredAndTakesEqualRow.domain false) (Rows.fnKindValueNamedIffDeclaredAndTakesEqualSpec.post enc Trym.prog Trym.f3 false true false false) := by
  refine returnsInHanded_of_change (C := Trym.checked) own started (by kernel_rfl) Trym.func3
    (ChangeSpec.witness6 (enc := enc) (C := Trym.checked) false ⟨#[], #[.int .i64 0], []⟩ 8 (by kernel_rfl) (by kernel_rfl) (by kernel_rfl) (by kernel_rfl)) ?_
  intro W base args ds gs before hval0 hW hcnd _
  have hval : ∀ (j : Nat) t v, Trym.f3.params[j]? = some t → args[j]? = some v → Value.okWide Trym.prog W .any base t v := hval0
  have hW' := hW
  obtain ⟨p, q, hA0, hV, rfl, hfz, hnd⟩ := hW
  have hA : DataW.TrodAll enc Trym.prog W 0 (fun _ => true) true Trym.f3.params.toList args.toList ds p := hA0
  rw [Trym.params3] at hA hval
  obtain ⟨v0, vs0, d0, ds0, p0, q0, hargs, rfl, rfl, h0, r0⟩ := trodAll_cons hA
  obtain ⟨rfl, rfl, rfl⟩ := trodAll_nil r0
  obtain rfl : args = #[v0] := by cases args; simp_all
  obtain ⟨rfl, rfl⟩ := trodVars_none hV
  obtain ⟨a0, rfl, rfl, rfl, w0⟩ := open_int Trym.underlying3 (hval 0 3 v0 rfl rfl) h0
  clear hA0 hval0
  simp only [List.append_nil] at hW'
  refine (walk a0 w0 W).mono fun e W' ⟨he, hg⟩ => ?_
  subst he
  exact ⟨_, rfl, post_of_same (pa := []) (pv := []) hW' (fun _ _ _ => (trodAll_cons_mk (shut_bool Trym.underlying4 _) trodAll_mk0)) (fun sp _ => (trodAll_cons_mk (shut_int Trym.underlying3 w0) trodAll_mk0)) (fun _ _ => rfl) rfl
    (hg.frame _) hg.2.1 (ok_one (by kernel_rfl) rfl (okWide_bool_mk Trym.underlying4 _))⟩

set_option maxRecDepth 100000 in
theorem closed : joinedFacts Trym.prog 3 Trym.f3 Rows.fnKindValueNamedIffDeclaredAndTakesEqualSpec Rows.fnKindValueNamedIffDeclaredAndTakesEqualRow = true := by
  delta joinedFacts
  repeat' (with_reducible refine and_intro ?_ ?_)
  all_goals first | (with_reducible exact may_enter) | (with_reducible refine make_ok _ ?_; with_unfolding_all rfl) | (with_reducible refine lifts_ok _ ?_; with_unfolding_all rfl) | kernel_rfl

theorem over : Rows.fnKindValueNamedIffDeclaredAndTakesEqualRow.holds Trym.pinned (OpenSpec.ofChange Rows.fnKindValueNamedIffDeclaredAndTakesEqualSpec) :=
  OpenClaim.holds_of_wide 3 Trym.f3 rfl rfl rfl rfl rfl rfl rfl ⟨rfl, rfl, rfl, rfl, rfl⟩ rfl rfl rfl rfl rfl (by kernel_rfl) Trym.func3 closed
    (of_decide_eq_true (by kernel_rfl)) (by unfold Func.isWrapper; first | (rw [if_pos (by decide +kernel)]; kernel_rfl) | (rw [if_neg (by decide +kernel)]; exact ⟨rfl, rfl⟩))
    (fun os started H enc _ => lifted os started H enc)

/-- ████ THE STATEMENT ████ -/
theorem proved : Rows.FnKindValueNamedIffDeclaredAndTakesEqualSaid :=
  over
#print axioms proved
end Go.Proofs.Qxb6001828aMods.fnKindValueNamedIffDeclaredAndTakesEqual
