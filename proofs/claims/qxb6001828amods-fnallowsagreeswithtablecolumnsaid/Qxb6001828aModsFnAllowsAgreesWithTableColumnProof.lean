/-
  'Rows.FnAllowsAgreesWithTableColumnSaid', proved. The frame is the guide's own make (proof-skeleton.mjs), turned to slices of strings; the walk is out of the contracts.
-/
import Derived.Test.Qxb6001828aModsRows
import Derived.Test.Qxb6001828aModsHead
import Derived.Test.Qxb6001828aModsZz18
import Derived.Test.Qxb6001828aModsGath
import Derived.Test.Qxb6001828aModsOpen
import Derived.WalkKit
import Derived.ProofKit
import Derived.OpenShut
import Derived.ShutString
import Derived.ChangeOld
import Derived.Below
import Derived.SliceStrings
namespace Go.Proofs.Qxb6001828aMods.fnAllowsAgreesWithTableColumn
open Go.ChangeShapes Go.WideShapes Go.ChangeAt Go.RowKit
open Go.ChangeMaps (open_string shut_string)
set_option linter.unusedVariables false

theorem own : ownKnob Trym.prog.godebug = none := by kernel_rfl
theorem laidOut : laidOutB Trym.prog = true := by kernel_rfl



theorem bool_eq_not {b : Bool} {p : Option Addr} {P : Prop} (h : b = true ↔ P) (hp : p.isNone = false ↔ P) : b = !p.isNone := by
  cases b <;> cases hn : p.isNone <;> simp_all

/-! ### THE WALK -/
set_option maxHeartbeats 2000000 in
theorem walk (a0 : Option Addr) (s0 : List ByteArray) (c0 : Nat) (a1 : Option Addr) (s1 : List ByteArray) (c1 : Nat) (nm : ByteArray) (w : World) (i0 : IsStrs w a0 s0) (i1 : IsStrs w a1 s1) (x2 : nm.size ≤ maxLen) :
    Calls Trym.prog 7 #[.slice a0 s0.length c0, .slice a1 s1.length c1, .string nm] w fun e w' => e = .returned (.bool true) ∧ Below w.heap.size w w' := by
  have H18 := zzBytes18_any a0 s0 c0 a1 s1 c1 nm w i0.at' i1.at' i0.len i1.len i0.size i1.size x2
  have A0 : Hid (StrsAt w a0 s0) := i0.at'
  have A1 : Hid (StrsAt w a1 s1) := i1.at'
  clear i0 i1 x2
  go_enter Trym.func7, Trym.ntmps7
  go_wp2_with fail
  refine H18.mono ?_
  rintro e w' ⟨⟨b, rfl, hb⟩, hw⟩
  have hw := hw.symm
  subst hw
  cases b
  · clear hb H18
    go_wp2
    go_ret
    exact ⟨rfl, Below.refl _ _⟩
  obtain ⟨sm0, sm1, x2⟩ := hb rfl
  have N0 := namesBytes_any a0 s0 c0 w A0.out sm0
  have N1 := namesBytes_any a1 s1 c1 w A1.out sm1
  have l0 : s0.length ≤ 1048576 := sm0.1
  have l1 : s1.length ≤ 1048576 := sm1.1
  clear hb H18 sm0 sm1
  go_wp2_with fail
  refine N0.mono ?_
  rintro e w' ⟨⟨x0, rfl, hx0, hx0'⟩, hw⟩
  have hw := hw.symm
  subst hw
  clear N0
  go_wp2_with fail
  refine N1.mono ?_
  rintro e w' ⟨⟨x1, rfl, hx1, hx1'⟩, hw⟩
  have hw := hw.symm
  subst hw
  clear N1
  by_cases big : 1048576 < x0 + x1 + nm.size
  · go_wp2
    go_ret
    exact ⟨rfl, Below.refl _ _⟩
  have K0 := columnsOf_any a0 s0 c0 w A0.out l0
  go_wp2_with fail
  refine K0.mono ?_
  rintro e w1 ⟨rfl, m0⟩
  have M0 : Hid (Made w.heap.size w w1 s0 s0.length s0.length) := m0
  have K1 := columnsOf_any a1 s1 c1 w1 (A1.out.later m0.below) l1
  clear m0 K0
  go_wp2_with fail
  refine K1.mono ?_
  rintro e w2 ⟨rfl, m1⟩
  have M1 : Hid (Made w1.heap.size w1 w2 s1 s1.length s1.length) := m1
  have B2 : Hid (Below w.heap.size w w2) := M0.out.below.trans (m1.below.mono (by have := M0.out.size; omega))
  have C0 : Hid (Cols w2 w.heap.size (qsOf w.heap.size s0.length) s0) := M0.out.cols.later m1.below
  have C1 : Hid (Cols w2 w1.heap.size (qsOf w1.heap.size s1.length) s1) := m1.cols
  have Z0 : Hid (w.heap.size < w2.heap.size) := by have := M0.out.size; have := m1.size; show _ < _; omega
  have Z1 : Hid (w1.heap.size < w2.heap.size) := by have := m1.size; show _ < _; omega
  have hmk := make_all s0.length s1.length l0 l1
  clear m1 K1 M0 M1 A0 A1 hx0 hx0' hx1 hx1' big
  obtain ⟨i36, hi, hz0, hz1, hz2⟩ := info_parts Trym.info36
  go_wp2
  clear hmk
  go_loopw [9, 10] (fun v i wr => ∃ k : Nat, k ≤ s0.length ∧ i = .int .i64 k ∧ Gath w2.heap.size w2 wr v k ((qsOf w.heap.size s0.length).take k)) (fun _ i _ => s0.length - (intOf i).toNat)
  case atStart => exact ⟨0, Nat.zero_le _, rfl, Gath.start w2 _ (by unfold maxLen; omega)⟩
  case round =>
    obtain ⟨k, hk, rfl, hg⟩ := hrel
    have HG : Hid (Gath w2.heap.size w2 wr u9 k ((qsOf w.heap.size s0.length).take k)) := hg
    clear hg
    by_cases hlt : k < s0.length
    · have g : wr.cell? ⟨w.heap.size, k, none⟩ = some (.pointer (some ⟨w.heap.size + 1 + k, 0, none⟩)) := by
        rw [HG.out.below.cell Z0.out, C0.out.ptr k hlt, qsOf_getD hlt]
      have HST : Hid (∀ d v' w', w'.ownsRow w2.heap.size 36 1 v' (k + 1) (((qsOf w.heap.size s0.length).take k).map ptr ++ [ptr (w.heap.size + 1 + k)]) → (wr.alloc (.cells d 36)).grownBy w' u9.ownBlock →
          Gath w2.heap.size w2 w' v' (k + 1) ((qsOf w.heap.size s0.length).take (k + 1))) := fun d v' w' h1 h2 => by rw [qsOf_take hlt]; exact HG.out.step (Nat.le_refl _) d h1 h2
      go_wp2_with (at_builtin; (refine wpList_append_own _ rfl (.tmp 43) (.tmp 48) 34 rfl w2.heap.size 36 i36 (.pointer none) 1 8 Trym.underlying34 hi hz0 hz1 hz2 rfl (by decide) _ _ _ rfl (HG.out.own.alloc _) ⟨wr.heap.size, 0, none⟩ 1 1 [ptr (w.heap.size + 1 + k)] rfl rfl ?c1 ?c2 ?c3 ?c4 ?c5 ?_))
      case c1 =>
        intro j u hj
        match j, hj with
        | 0, hj => simp at hj; subst hj; simp [Addr.add, ptr]
      case c2 => intro u hu; simp at hu; subst hu; rfl
      case c3 => unfold maxLen; omega
      case c4 => omega
      case c5 => have := HG.out.below.size; simp; omega
      intro v' w' hown' hgrow _
      have R : Hid (Gath w2.heap.size w2 w' v' (k + 1) ((qsOf w.heap.size s0.length).take (k + 1))) := HST.out _ _ _ (by simpa using hown') hgrow
      clear hown' hgrow HST HG g
      go_wp2
      go_roundw
      case rel => exact ⟨k + 1, by omega, by go_num, R.out⟩
      case measure => simp [intOf]; omega
    · have hkn : k = s0.length := by omega
      have HG0 : Hid (Gath w2.heap.size w2 wr u9 s0.length (qsOf w.heap.size s0.length)) := by
        have := HG.out
        rw [hkn, qsOf_take_all] at this
        exact this
      clear hkn HG
      obtain ⟨wo, hwo⟩ : ∃ wo : World, wo = wr := ⟨_, rfl⟩
      subst hwo
      obtain ⟨vo, hvo⟩ : ∃ vo : Value, vo = u9 := ⟨_, rfl⟩
      subst hvo
      go_wp2
      go_loopw [9, 11] (fun v i wr => ∃ k : Nat, k ≤ s1.length ∧ i = .int .i64 k ∧ Gath w2.heap.size w2 wr v (s0.length + k) (qsOf w.heap.size s0.length ++ (qsOf w1.heap.size s1.length).take k)) (fun _ i _ => s1.length - (intOf i).toNat)
      case atStart => exact ⟨0, Nat.zero_le _, rfl, by simpa using HG0.out⟩
      case round =>
        clear HG0
        obtain ⟨k', hk', rfl, hg'⟩ := hrel
        have HG : Hid (Gath w2.heap.size w2 wr u9 (s0.length + k') (qsOf w.heap.size s0.length ++ (qsOf w1.heap.size s1.length).take k')) := hg'
        clear hg'
        by_cases hlt' : k' < s1.length
        · have g : wr.cell? ⟨w1.heap.size, k', none⟩ = some (.pointer (some ⟨w1.heap.size + 1 + k', 0, none⟩)) := by
            rw [HG.out.below.cell Z1.out, C1.out.ptr k' hlt', qsOf_getD hlt']
          have HST : Hid (∀ d v' w', w'.ownsRow w2.heap.size 36 1 v' (s0.length + k' + 1) ((qsOf w.heap.size s0.length ++ (qsOf w1.heap.size s1.length).take k').map ptr ++ [ptr (w1.heap.size + 1 + k')]) → (wr.alloc (.cells d 36)).grownBy w' u9.ownBlock →
              Gath w2.heap.size w2 w' v' (s0.length + (k' + 1)) (qsOf w.heap.size s0.length ++ (qsOf w1.heap.size s1.length).take (k' + 1))) := fun d v' w' h1 h2 => by rw [qsOf_take hlt', ← List.append_assoc]; exact HG.out.step (Nat.le_refl _) d h1 h2
          go_wp2_with (at_builtin; (refine wpList_append_own _ rfl (.tmp 56) (.tmp 61) 34 rfl w2.heap.size 36 i36 (.pointer none) 1 8 Trym.underlying34 hi hz0 hz1 hz2 rfl (by decide) _ _ _ rfl (HG.out.own.alloc _) ⟨wr.heap.size, 0, none⟩ 1 1 [ptr (w1.heap.size + 1 + k')] rfl rfl ?c1 ?c2 ?c3 ?c4 ?c5 ?_))
          case c1 =>
            intro j u hj
            match j, hj with
            | 0, hj => simp at hj; subst hj; simp [Addr.add, ptr]
          case c2 => intro u hu; simp at hu; subst hu; rfl
          case c3 => unfold maxLen; omega
          case c4 => omega
          case c5 => have := HG.out.below.size; simp; omega
          intro v' w' hown' hgrow _
          have R : Hid (Gath w2.heap.size w2 w' v' (s0.length + (k' + 1)) (qsOf w.heap.size s0.length ++ (qsOf w1.heap.size s1.length).take (k' + 1))) := HST.out _ _ _ (by simpa using hown') hgrow
          clear hown' hgrow HST HG g
          go_wp2
          go_roundw
          case rel => exact ⟨k' + 1, by omega, by go_num, R.out⟩
          case measure => simp [intOf]; omega
        · have hkn : k' = s1.length := by omega
          have HG0 : Hid (Gath w2.heap.size w2 wr u9 (s0.length + s1.length) (qsOf w.heap.size s0.length ++ qsOf w1.heap.size s1.length)) := by
            have := HG.out
            rw [hkn, qsOf_take_all] at this
            exact this
          clear hkn HG hi hz0 hz1 hz2
          obtain ⟨ca, cc, hv⟩ := HG0.out.shape
          rw [hv] at HG0 ⊢
          clear hv
          have BR : Hid (Below w.heap.size w wr) := B2.out.trans (HG0.out.below.mono B2.out.size)
          go_wp2_with fail
          refine (zzAllows_any (some ⟨wr.heap.size, 0, none⟩) w.heap.size (s0.length + 1) w1.heap.size (s1.length + 1) (qsOf w.heap.size s0.length) s0 (qsOf w1.heap.size s1.length) s1 nm _ l0 (by omega) ?h0 ?h1).mono ?_
          case h0 => exact (C0.out.later HG0.out.below).later ((Below.refl _ _).alloc (Nat.le_refl _) _)
          case h1 => exact (C1.out.later HG0.out.below).later ((Below.refl _ _).alloc (Nat.le_refl _) _)
          rintro e w5 ⟨⟨b, rfl, hb⟩, hb5⟩
          have B5 : Hid (Below wr.heap.size wr w5) := ((Below.refl _ _).alloc (Nat.le_refl _) _).trans (hb5.mono (by simp))
          have hr : w5.cell? ⟨wr.heap.size, 1, none⟩ = some (.slice ca (s0.length + s1.length) cc) := by
            rw [hb5.cell (by simp)]
            simp
          have KC : Calls Trym.prog 22 #[.pointer (some ⟨wr.heap.size, 0, none⟩), .string nm] w5 fun e w' => Finds (Has (s0 ++ s1) nm (s0.length + s1.length)) e ∧ w' = w5 := by
            rcases HG0.out.cols C0.out C1.out B5.out with h | ⟨g, hca, hcols⟩
            · exact column_empty wr.heap.size ca _ cc h _ nm w5 hr
            · rw [hca] at hr
              have hl : (s0 ++ s1).length = s0.length + s1.length := List.length_append
              have := column_any wr.heap.size g cc _ (s0 ++ s1) nm w5 (by omega) (by rw [hl]; exact hr) hcols
              rw [hl] at this
              exact this
          have HB : Hid (b = true ↔ Has s0 nm s0.length ∨ Has s1 nm s1.length) := hb
          clear hb hb5 hr
          go_wp2_with fail
          refine KC.mono ?_
          rintro e w' ⟨⟨p, rfl, hp⟩, hw⟩
          have hw := hw.symm
          subst hw
          rw [Has.append] at hp
          obtain rfl : b = !p.isNone := bool_eq_not HB.out hp
          clear HB hp KC
          have B6 : Hid (Below w.heap.size w w5) := BR.out.trans (B5.out.mono BR.out.size)
          go_wp2
          go_ret
          refine ⟨?_, B6.out⟩
          cases p <;> rfl


/-! ### THE ROW's STEP -/
set_option maxRecDepth 100000 in
theorem lifted (os : Os) (started : os.Started) (H : Type) (enc : TypeId × Value → H) :
    ReturnsInHanded {} Trym.checked os 7 .any (Rows.fnAllowsAgreesWithTableColumnSpec.pre6 enc Trym.prog Trym.f7 Rows.fnAllowsAgreesWithTableColumnRow.domain false) (Rows.fnAllowsAgreesWithTableColumnSpec.post enc Trym.prog Trym.f7 false true false false) := by
  refine returnsInHanded_of_change (C := Trym.checked) own started (by kernel_rfl) Trym.func7
    (ChangeSpec.witness6 (enc := enc) (C := Trym.checked) false ⟨#[], #[.slice none 0 0, .slice none 0 0, .string ByteArray.empty], []⟩ 8 (by kernel_rfl) (by kernel_rfl) (by kernel_rfl) (by kernel_rfl)) ?_
  intro W base args ds gs before hval0 hW hcnd _
  have hval : ∀ (j : Nat) t v, Trym.f7.params[j]? = some t → args[j]? = some v → Value.okWide Trym.prog W .any base t v := hval0
  have hW' := hW
  obtain ⟨p, q, hA0, hV, rfl, hfz, hnd⟩ := hW
  have hA : DataW.TrodAll enc Trym.prog W 0 (fun _ => true) true Trym.f7.params.toList args.toList ds p := hA0
  rw [Trym.params7] at hA hval
  obtain ⟨v0, vs0, d0, ds0, p0, q0, hargs, rfl, rfl, h0, r0⟩ := trodAll_cons hA
  obtain ⟨v1, vs1, d1, ds1, p1, q1, rfl, rfl, rfl, h1, r1⟩ := trodAll_cons r0
  obtain ⟨v2, vs2, d2, ds2, p2, q2, rfl, rfl, rfl, h2, r2⟩ := trodAll_cons r1
  obtain ⟨rfl, rfl, rfl⟩ := trodAll_nil r2
  obtain rfl : args = #[v0, v1, v2] := by cases args; simp_all
  obtain ⟨rfl, rfl⟩ := trodVars_none hV
  obtain ⟨a0, len0, cap0, rfl⟩ := okWide_slice Trym.underlying31 (hval 0 31 v0 rfl rfl)
  have k0 := h0
  have lt0 : ∀ x ∈ p0, x.block < W.heap.size := by obtain ⟨m, hm⟩ := k0; exact DataW.trod_lt m _ _ _ hm
  obtain ⟨z0, zl0, w0⟩ : ∃ ss, ss.length = len0 ∧ IsStrs W a0 ss := by
    obtain ⟨fuel, hf⟩ := h0
    rcases open_strings Trym.underlying31 Trym.underlying9 (by kernel_rfl) hf with ⟨hcs, _⟩ | ⟨x, l, c, zs, hcs, _, hl, hm, hz, _, hcell, hwz⟩
    · simp [Value.cells] at hcs
      obtain ⟨rfl, rfl, rfl⟩ := hcs
      exact ⟨[], rfl, isStrs_nil _ _⟩
    · simp [Value.cells] at hcs
      obtain ⟨rfl, rfl, rfl⟩ := hcs
      exact isStrs_of hl hm (by simpa using hz) hcell hwz
  obtain ⟨a1, len1, cap1, rfl⟩ := okWide_slice Trym.underlying31 (hval 1 31 v1 rfl rfl)
  have k1 := h1
  have lt1 : ∀ x ∈ p1, x.block < W.heap.size := by obtain ⟨m, hm⟩ := k1; exact DataW.trod_lt m _ _ _ hm
  obtain ⟨z1, zl1, w1⟩ : ∃ ss, ss.length = len1 ∧ IsStrs W a1 ss := by
    obtain ⟨fuel, hf⟩ := h1
    rcases open_strings Trym.underlying31 Trym.underlying9 (by kernel_rfl) hf with ⟨hcs, _⟩ | ⟨x, l, c, zs, hcs, _, hl, hm, hz, _, hcell, hwz⟩
    · simp [Value.cells] at hcs
      obtain ⟨rfl, rfl, rfl⟩ := hcs
      exact ⟨[], rfl, isStrs_nil _ _⟩
    · simp [Value.cells] at hcs
      obtain ⟨rfl, rfl, rfl⟩ := hcs
      exact isStrs_of hl hm (by simpa using hz) hcell hwz
  obtain ⟨a2, rfl, rfl, rfl, w2⟩ := open_string Trym.underlying9 (hval 2 9 v2 rfl rfl) h2
  clear hA0 hval0
  subst zl0 zl1
  refine (walk a0 z0 cap0 a1 z1 cap1 a2 W w0 w1 w2).mono fun e W' ⟨he, bel⟩ => ?_
  subst he
  exact ⟨_, rfl, _, _, _, [], _, [], hW', trodAll_mk1 (shut_bool Trym.underlying4 _), (trodAll_cons_mk (Below.trod laidOut (by kernel_rfl) (of_decide_eq_true (by kernel_rfl)) k0 bel lt0) (trodAll_cons_mk (Below.trod laidOut (by kernel_rfl) (of_decide_eq_true (by kernel_rfl)) k1 bel lt1) (trodAll_cons_mk (shut_string Trym.underlying9 w2) trodAll_mk0))), rfl, bel.frame _, fun h => by cases h⟩

set_option maxRecDepth 100000 in
theorem closed : joinedFacts Trym.prog 7 Trym.f7 Rows.fnAllowsAgreesWithTableColumnSpec Rows.fnAllowsAgreesWithTableColumnRow = true := by
  delta joinedFacts
  repeat' (with_reducible refine and_intro ?_ ?_)
  all_goals first | (with_reducible exact may_enter) | (with_reducible refine make_ok _ ?_; with_unfolding_all rfl) | (with_reducible refine lifts_ok _ ?_; with_unfolding_all rfl) | kernel_rfl

theorem over : Rows.fnAllowsAgreesWithTableColumnRow.holds Trym.pinned (OpenSpec.ofChange Rows.fnAllowsAgreesWithTableColumnSpec) :=
  OpenClaim.holds_of_wide 7 Trym.f7 rfl rfl rfl rfl rfl rfl rfl ⟨rfl, rfl, rfl, rfl, rfl⟩ rfl rfl rfl rfl rfl (by kernel_rfl) Trym.func7 closed
    (of_decide_eq_true (by kernel_rfl)) (by unfold Func.isWrapper; first | (rw [if_pos (by decide +kernel)]; kernel_rfl) | (rw [if_neg (by decide +kernel)]; exact ⟨rfl, rfl⟩))
    (fun os started H enc _ => lifted os started H enc)

/-- ████ THE STATEMENT ████ -/
theorem proved : Rows.FnAllowsAgreesWithTableColumnSaid := over
#print axioms proved
end Go.Proofs.Qxb6001828aMods.fnAllowsAgreesWithTableColumn
