/-
  'Rows.FnIsWordAgreesWithByteClassSaid', proved. The frame is the guide's shell for this function; the walk is filled in.
-/
import Derived.Test.Qxb6001828aModsWord
import Derived.Test.Qxb6001828aModsHead
import Derived.WalkKit
import Derived.ProofKit
import Derived.OpenShut
import Derived.ShutString
namespace Go.Proofs.Qxb6001828aMods.fnIsWordAgreesWithByteClass
open Go.ChangeShapes Go.WideShapes Go.ChangeAt Go.RowKit
open Go.ChangeMaps (open_string shut_string)
set_option linter.unusedVariables false      -- a walk need not use every 'w<i>' (that an integer argument fits its kind)

theorem own : ownKnob Trym.prog.godebug = none := by kernel_rfl

/-- The iterator's block is no row of cells: nothing of it is frozen. -/
theorem frozen_iter (w : World) (s : ByteArray) (pos : Nat) (a : Addr) : (w.iter s pos).frozen? a = w.frozen? a := by
  by_cases h : a.block = w.heap.size
  · have e1 : (w.iter s pos).heap[a.block]? = some (.stringIter s pos) := by rw [h]; exact World.iter_heap w s pos
    have e2 : w.heap[a.block]? = Option.none := by rw [h]; simp
    simp [World.frozen?, e1, e2]
  · exact World.frozen?_alloc_old _ _ _ h

theorem grown_iter (w : World) (s : ByteArray) (pos : Nat) : Grown w (w.iter s pos) :=
  ⟨World.keptBut_alloc _ _ _, frozen_iter _ _ _, by show w.heap.size ≤ (w.heap.push _).size; simp⟩

/-! ### STEP 1: THE WALK: the Go text returns true. 'Grown w w'': the world has at most new blocks (Derived/RowKit3.lean). Part the cases AHEAD of 'go_enter' where a test parts the walk; take each callee by a contract of your own. -/
theorem walk (a0 : ByteArray) (w0 : a0.size ≤ maxLen) (w : World) :
    Calls Trym.prog 6 #[.string a0] w fun e w' => e = .returned (.bool true) ∧ Grown w w' := by
  unfold maxLen at w0
  by_cases hsz : a0.size ≤ 1048576
  · have H15 := fun w => zzIsWord_any a0 w
    obtain ⟨ball, hball⟩ : ∃ b, allWord a0.data.toList = b := ⟨_, rfl⟩
    rw [hball] at H15
    have HB : Hid (allWord a0.data.toList = ball) := hball
    clear hball
    have H16 := fun w => zzBytes16_yes a0 hsz w
    go_enter Trym.func6, Trym.ntmps6
    go_wp2_with (go_at_call 16; refine (H16 _).mono ?_; rintro e w' ⟨rfl, rfl⟩)
    clear H16
    go_loop [3, 4] (fun t i => ∃ k : Nat, k ≤ a0.size ∧ i = .int .i64 k ∧ t = .bool (allWord (a0.data.toList.take k))) (fun _ i => a0.size - (intOf i).toNat)
    case atStart => exact ⟨0, Nat.zero_le _, rfl, rfl⟩
    case round =>
      obtain ⟨k, hk, rfl, rfl⟩ := hrel
      by_cases hlt : k < a0.size
      · obtain ⟨bc, hbc⟩ : ∃ b, wordN ((a0[k]'hlt).toNat : Int) = b := ⟨_, rfl⟩
        have H17 := fun w => isWordByte_any ((a0[k]'hlt).toNat : Int) w
        rw [hbc] at H17
        have HS : Hid (allWord (a0.data.toList.take (k + 1)) = (allWord (a0.data.toList.take k) && bc)) := by
          show allWord (a0.data.toList.take (k + 1)) = _
          rw [take_snoc a0 k hlt, allWord_snoc, hbc]
        clear hbc
        cases bc
        · go_wp2_with (go_at_call 17; refine (H17 _).mono ?_; rintro e w' ⟨rfl, rfl⟩)
          go_round
          case rel => exact ⟨k + 1, by omega, by go_num, by rw [HS.out, Bool.and_false]⟩
          case measure => simp [intOf]; omega
        · go_wp2_with (go_at_call 17; refine (H17 _).mono ?_; rintro e w' ⟨rfl, rfl⟩)
          go_round
          case rel => exact ⟨k + 1, by omega, by go_num, by rw [HS.out, Bool.and_true]⟩
          case measure => simp [intOf]; omega
      · have HE : Hid (allWord (a0.data.toList.take k) = ball) := by
          show allWord (a0.data.toList.take k) = ball
          rw [List.take_of_length_le (by simp; omega), HB.out]
        obtain ⟨bk, hbk⟩ : ∃ b, allWord (a0.data.toList.take k) = b := ⟨_, rfl⟩
        rw [hbk]
        have HE' : bk = ball := by rw [← hbk]; exact HE.out
        clear hbk
        subst HE'
        go_wp2_with (go_at_call 15; refine (H15 _).mono ?_; rintro e w' ⟨rfl, pos, rfl⟩)
        go_ret
        refine ⟨?_, grown_iter _ _ _⟩
        cases bk <;> rfl
  · have H16 := fun w => zzBytes16_no a0 hsz w
    go_enter Trym.func6, Trym.ntmps6
    go_wp2_with (go_at_call 16; refine (H16 _).mono ?_; rintro e w' ⟨rfl, rfl⟩)
    go_ret
    exact ⟨rfl, Grown.refl _⟩

/-! ### THE ROW's STEP: WRITTEN OUT: LEAVE IT -/
set_option maxRecDepth 100000 in
theorem lifted (os : Os) (started : os.Started) (H : Type) (enc : TypeId × Value → H) :
    ReturnsInHanded {} Trym.checked os 6 .any (Rows.fnIsWordAgreesWithByteClassSpec.pre6 enc Trym.prog Trym.f6 Rows.fnIsWordAgreesWithByteClassRow.domain false) (Rows.fnIsWordAgreesWithByteClassSpec.post enc Trym.prog Trym.f6 false true false false) := by
  refine returnsInHanded_of_change (C := Trym.checked) own started (by kernel_rfl) Trym.func6
    (ChangeSpec.witness6 (enc := enc) (C := Trym.checked) false ⟨#[], #[.string ByteArray.empty], []⟩ 8 (by kernel_rfl) (by kernel_rfl) (by kernel_rfl) (by kernel_rfl)) ?_
  intro W base args ds gs before hval0 hW hcnd _
  have hval : ∀ (j : Nat) t v, Trym.f6.params[j]? = some t → args[j]? = some v → Value.okWide Trym.prog W .any base t v := hval0
  have hW' := hW
  obtain ⟨p, q, hA0, hV, rfl, hfz, hnd⟩ := hW
  have hA : DataW.TrodAll enc Trym.prog W 0 (fun _ => true) true Trym.f6.params.toList args.toList ds p := hA0
  rw [Trym.params6] at hA hval
  obtain ⟨v0, vs0, d0, ds0, p0, q0, hargs, rfl, rfl, h0, r0⟩ := trodAll_cons hA
  obtain ⟨rfl, rfl, rfl⟩ := trodAll_nil r0
  obtain rfl : args = #[v0] := by cases args; simp_all
  obtain ⟨rfl, rfl⟩ := trodVars_none hV
  obtain ⟨a0, rfl, rfl, rfl, w0⟩ := open_string Trym.underlying9 (hval 0 9 v0 rfl rfl) h0
  clear hA0 hval0
  simp only [List.append_nil] at hW'
  refine (walk a0 w0 W).mono fun e W' ⟨he, hg⟩ => ?_
  subst he
  exact ⟨_, rfl, post_of_same (pa := []) (pv := []) hW' (fun _ _ _ => (trodAll_cons_mk (shut_bool Trym.underlying4 _) trodAll_mk0)) (fun sp _ => (trodAll_cons_mk (shut_string Trym.underlying9 w0) trodAll_mk0)) (fun _ _ => rfl) rfl
    (hg.frame _) hg.2.1 (ok_one (by kernel_rfl) rfl (okWide_bool_mk Trym.underlying4 _))⟩

set_option maxRecDepth 100000 in
theorem closed : joinedFacts Trym.prog 6 Trym.f6 Rows.fnIsWordAgreesWithByteClassSpec Rows.fnIsWordAgreesWithByteClassRow = true := by
  delta joinedFacts
  repeat' (with_reducible refine and_intro ?_ ?_)
  all_goals first | (with_reducible exact may_enter) | (with_reducible refine make_ok _ ?_; with_unfolding_all rfl) | (with_reducible refine lifts_ok _ ?_; with_unfolding_all rfl) | kernel_rfl

theorem over : Rows.fnIsWordAgreesWithByteClassRow.holds Trym.pinned (OpenSpec.ofChange Rows.fnIsWordAgreesWithByteClassSpec) :=
  OpenClaim.holds_of_wide 6 Trym.f6 rfl rfl rfl rfl rfl rfl rfl ⟨rfl, rfl, rfl, rfl, rfl⟩ rfl rfl rfl rfl rfl (by kernel_rfl) Trym.func6 closed
    (of_decide_eq_true (by kernel_rfl)) (by unfold Func.isWrapper; first | (rw [if_pos (by decide +kernel)]; kernel_rfl) | (rw [if_neg (by decide +kernel)]; exact ⟨rfl, rfl⟩))
    (fun os started H enc _ => lifted os started H enc)

/-- ████ THE STATEMENT ████ -/
theorem proved : Rows.FnIsWordAgreesWithByteClassSaid :=
  over
#print axioms proved
end Go.Proofs.Qxb6001828aMods.fnIsWordAgreesWithByteClass
