/-
  'Rows.FnKindValueDistinctKindsDistinctNamesSaid', proved. The frame is the guide's shell for this function; the walk and the plain law are filled in.
-/
import Derived.Test.Qxb6001828aModsKind
import Derived.Test.Qxb6001828aModsHead
import Derived.WalkKit
import Derived.ProofKit
import Derived.OpenShut
import Derived.ShutString
namespace Go.Proofs.Qxb6001828aMods.fnKindValueDistinctKindsDistinctNames
open Go.ChangeShapes Go.WideShapes Go.ChangeAt Go.RowKit
open Go.ChangeMaps (open_string shut_string)
set_option linter.unusedVariables false      -- a walk need not use every 'w<i>' (that an integer argument fits its kind)

theorem own : ownKnob Trym.prog.godebug = none := by kernel_rfl

/-! ### THE PLAIN LAW: no Go in sight -/
theorem plain {a b : Int} (hab : a ≠ b) (ha : (kvBytes a == [110, 111, 32, 118, 97, 108, 117, 101]) = false) (hb : (kvBytes b == [110, 111, 32, 118, 97, 108, 117, 101]) = false) : (kvBytes a == kvBytes b) = false := by
  have cases : ∀ k : Int, (kvBytes k == [110, 111, 32, 118, 97, 108, 117, 101]) = false → k = 0 ∨ k = 1 ∨ k = 2 ∨ k = 3 ∨ k = 4 := by
    intro k hk
    by_cases h0 : k = 0; · omega
    by_cases h1 : k = 1; · omega
    by_cases h2 : k = 2; · omega
    by_cases h3 : k = 3; · omega
    by_cases h4 : k = 4; · omega
    exfalso
    unfold kvBytes at hk
    simp only [h0, h1, h2, h3, h4, if_false] at hk
    revert hk
    decide
  rcases cases a ha with rfl | rfl | rfl | rfl | rfl <;> rcases cases b hb with rfl | rfl | rfl | rfl | rfl <;> first | exact absurd rfl hab | decide

/-! ### STEP 1: THE WALK: the Go text returns true. 'Grown w w'': the world has at most new blocks (Derived/RowKit3.lean). Part the cases AHEAD of 'go_enter' where a test parts the walk; take each callee by a contract of your own. -/
theorem walk (a0 : Int) (a1 : Int) (w0 : (Lit.int .i64 a0).wf = true) (w1 : (Lit.int .i64 a1).wf = true) (w : World) :
    Calls Trym.prog 4 #[.int .i64 a0, .int .i64 a1] w fun e w' => e = .returned (.bool true) ∧ Grown w w' := by
  by_cases hab : a0 = a1
  · subst hab
    go_enter Trym.func4, Trym.ntmps4
    go_wp2
    go_ret
    exact ⟨rfl, Grown.refl _⟩
  · have e0 : (a0 == a1) = false := by simpa using hab
    have HAB : Hid (a0 ≠ a1) := hab
    clear hab w0 w1
    go_enter Trym.func4, Trym.ntmps4
    go_wp2_with fail
    refine (zzKindValue_any _ _).mono ?_
    rintro e w' ⟨⟨s, rfl, hs⟩, rfl⟩
    have HS : Hid (s.toList = kvBytes a0) := hs
    clear hs
    go_wp2_with fail
    refine (zzKindValue_any _ _).mono ?_
    rintro e w' ⟨⟨t, rfl, ht⟩, rfl⟩
    have HT : Hid (t.toList = kvBytes a1) := ht
    clear ht
    go_wp2
    · go_ret
      exact ⟨rfl, Grown.refl _⟩
    · go_ret
      exact ⟨rfl, Grown.refl _⟩
    · go_ret
      refine ⟨?_, Grown.refl _⟩
      have hs : (s.toList == [110, 111, 32, 118, 97, 108, 117, 101]) = false ∧ (t.toList == [110, 111, 32, 118, 97, 108, 117, 101]) = false := by assumption
      have e : (s.toList == t.toList) = false := by
        rw [HS.out] at hs ⊢
        rw [HT.out] at hs ⊢
        exact plain HAB.out hs.1 hs.2
      show Ending.returned (Value.bool (!(s.toList == t.toList))) = _
      rw [e]
      rfl

/-! ### THE ROW's STEP: WRITTEN OUT: LEAVE IT -/
set_option maxRecDepth 100000 in
theorem lifted (os : Os) (started : os.Started) (H : Type) (enc : TypeId × Value → H) :
    ReturnsInHanded {} Trym.checked os 4 .any (Rows.fnKindValueDistinctKindsDistinctNamesSpec.pre6 enc Trym.prog Trym.f4 Rows.fnKindValueDistinctKindsDistinctNamesRow.domain false) (Rows.fnKindValueDistinctKindsDistinctNamesSpec.post enc Trym.prog Trym.f4 false true false false) := by
  refine returnsInHanded_of_change (C := Trym.checked) own started (by kernel_rfl) Trym.func4
    (ChangeSpec.witness6 (enc := enc) (C := Trym.checked) false ⟨#[], #[.int .i64 0, .int .i64 0], []⟩ 8 (by kernel_rfl) (by kernel_rfl) (by kernel_rfl) (by kernel_rfl)) ?_
  intro W base args ds gs before hval0 hW hcnd _
  have hval : ∀ (j : Nat) t v, Trym.f4.params[j]? = some t → args[j]? = some v → Value.okWide Trym.prog W .any base t v := hval0
  have hW' := hW
  obtain ⟨p, q, hA0, hV, rfl, hfz, hnd⟩ := hW
  have hA : DataW.TrodAll enc Trym.prog W 0 (fun _ => true) true Trym.f4.params.toList args.toList ds p := hA0
  rw [Trym.params4] at hA hval
  obtain ⟨v0, vs0, d0, ds0, p0, q0, hargs, rfl, rfl, h0, r0⟩ := trodAll_cons hA
  obtain ⟨v1, vs1, d1, ds1, p1, q1, rfl, rfl, rfl, h1, r1⟩ := trodAll_cons r0
  obtain ⟨rfl, rfl, rfl⟩ := trodAll_nil r1
  obtain rfl : args = #[v0, v1] := by cases args; simp_all
  obtain ⟨rfl, rfl⟩ := trodVars_none hV
  obtain ⟨a0, rfl, rfl, rfl, w0⟩ := open_int Trym.underlying3 (hval 0 3 v0 rfl rfl) h0
  obtain ⟨a1, rfl, rfl, rfl, w1⟩ := open_int Trym.underlying3 (hval 1 3 v1 rfl rfl) h1
  clear hA0 hval0
  simp only [List.append_nil] at hW'
  refine (walk a0 a1 w0 w1 W).mono fun e W' ⟨he, hg⟩ => ?_
  subst he
  exact ⟨_, rfl, post_of_same (pa := []) (pv := []) hW' (fun _ _ _ => (trodAll_cons_mk (shut_bool Trym.underlying4 _) trodAll_mk0)) (fun sp _ => (trodAll_cons_mk (shut_int Trym.underlying3 w0) (trodAll_cons_mk (shut_int Trym.underlying3 w1) trodAll_mk0))) (fun _ _ => rfl) rfl
    (hg.frame _) hg.2.1 (ok_one (by kernel_rfl) rfl (okWide_bool_mk Trym.underlying4 _))⟩

set_option maxRecDepth 100000 in
theorem closed : joinedFacts Trym.prog 4 Trym.f4 Rows.fnKindValueDistinctKindsDistinctNamesSpec Rows.fnKindValueDistinctKindsDistinctNamesRow = true := by
  delta joinedFacts
  repeat' (with_reducible refine and_intro ?_ ?_)
  all_goals first | (with_reducible exact may_enter) | (with_reducible refine make_ok _ ?_; with_unfolding_all rfl) | (with_reducible refine lifts_ok _ ?_; with_unfolding_all rfl) | kernel_rfl

theorem over : Rows.fnKindValueDistinctKindsDistinctNamesRow.holds Trym.pinned (OpenSpec.ofChange Rows.fnKindValueDistinctKindsDistinctNamesSpec) :=
  OpenClaim.holds_of_wide 4 Trym.f4 rfl rfl rfl rfl rfl rfl rfl ⟨rfl, rfl, rfl, rfl, rfl⟩ rfl rfl rfl rfl rfl (by kernel_rfl) Trym.func4 closed
    (of_decide_eq_true (by kernel_rfl)) (by unfold Func.isWrapper; first | (rw [if_pos (by decide +kernel)]; kernel_rfl) | (rw [if_neg (by decide +kernel)]; exact ⟨rfl, rfl⟩))
    (fun os started H enc _ => lifted os started H enc)

/-- ████ THE STATEMENT ████ -/
theorem proved : Rows.FnKindValueDistinctKindsDistinctNamesSaid :=
  over
#print axioms proved
end Go.Proofs.Qxb6001828aMods.fnKindValueDistinctKindsDistinctNames
