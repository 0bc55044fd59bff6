/-
  'Rows.FnAllowsGrowsWithAllowSaid', proved. The frame is the guide's own make (proof-skeleton.mjs), turned to slices of strings; the walk is out of the contracts.
-/
import Derived.Test.Qxb6001828aModsRows
import Derived.Test.Qxb6001828aModsHead
import Derived.Test.Qxb6001828aModsZz23
import Derived.Test.Qxb6001828aModsOwns
import Derived.Test.Qxb6001828aModsOpen
import Derived.WalkKit
import Derived.ProofKit
import Derived.OpenShut
import Derived.ShutString
import Derived.ChangeOld
import Derived.Below
import Derived.SliceStrings
namespace Go.Proofs.Qxb6001828aMods.fnAllowsGrowsWithAllow
open Go.ChangeShapes Go.WideShapes Go.ChangeAt Go.RowKit
open Go.ChangeMaps (open_string shut_string)
set_option linter.unusedVariables false

theorem own : ownKnob Trym.prog.godebug = none := by kernel_rfl
theorem laidOut : laidOutB Trym.prog = true := by kernel_rfl



theorem bool_eq_of {a b : Bool} {P : Prop} (h : a = true ↔ b = true ∨ P) (hp : ¬ P) : a = b := by
  cases a <;> cases b <;> simp_all

/-! ### THE WALK -/
set_option maxHeartbeats 1000000 in
theorem walk (a0 : Option Addr) (s0 : List ByteArray) (c0 : Nat) (a1 : Option Addr) (s1 : List ByteArray) (c1 : Nat) (ex nm : ByteArray) (w : World) (i0 : IsStrs w a0 s0) (i1 : IsStrs w a1 s1) (x2 : ex.size ≤ maxLen) (x3 : nm.size ≤ maxLen) :
    Calls Trym.prog 8 #[.slice a0 s0.length c0, .slice a1 s1.length c1, .string ex, .string nm] w fun e w' => e = .returned (.bool true) ∧ Below w.heap.size w w' := by
  have H23 := zzBytes23_any a0 s0 c0 a1 s1 c1 ex nm w i0.at' i1.at' i0.len i1.len i0.size i1.size x2 x3
  have A0 : Hid (StrsAt w a0 s0) := i0.at'
  have A1 : Hid (StrsAt w a1 s1) := i1.at'
  clear i0 i1 x2 x3
  go_enter Trym.func8, Trym.ntmps8
  go_wp2_with fail
  refine H23.mono ?_
  rintro e w' ⟨⟨b, rfl, hb⟩, hw⟩
  have hw := hw.symm
  subst hw
  cases b
  · clear hb H23
    go_wp2
    go_ret
    exact ⟨rfl, Below.refl _ _⟩
  obtain ⟨sm0, sm1, x2, x3⟩ := hb rfl
  have N0 := namesBytes_any a0 s0 c0 w A0.out sm0
  have N1 := namesBytes_any a1 s1 c1 w A1.out sm1
  have l0 : s0.length ≤ 1048576 := sm0.1
  have l1 : s1.length ≤ 1048576 := sm1.1
  clear hb H23 sm0 sm1
  go_wp2_with fail
  refine N0.mono ?_
  rintro e w' ⟨⟨x0, rfl, hx0, hx0'⟩, hw⟩
  have hw := hw.symm
  subst hw
  clear N0
  go_wp2_with fail
  refine N1.mono ?_
  rintro e w' ⟨⟨x1, rfl, hx1, hx1'⟩, hw⟩
  have hw := hw.symm
  subst hw
  clear N1
  by_cases big : 1048576 < x0 + x1 + ex.size + nm.size
  · go_wp2
    go_ret
    exact ⟨rfl, Below.refl _ _⟩
  have K0 := columnsOf_any a0 s0 c0 w A0.out l0
  go_wp2_with fail
  refine K0.mono ?_
  rintro e w1 ⟨rfl, m0⟩
  have M0 : Hid (Made w.heap.size w w1 s0 s0.length s0.length) := m0
  have K1 := columnsOf_any a1 s1 c1 w1 (A1.out.later m0.below) l1
  clear m0 K0
  go_wp2_with fail
  refine K1.mono ?_
  rintro e w2 ⟨rfl, m1⟩
  have M1 : Hid (Made w1.heap.size w1 w2 s1 s1.length s1.length) := m1
  have B2 : Hid (Below w.heap.size w w2) := M0.out.below.trans (m1.below.mono (by have := M0.out.size; omega))
  have KA := zzAllows_any none w.heap.size (s0.length + 1) w1.heap.size (s1.length + 1) (qsOf w.heap.size s0.length) s0 (qsOf w1.heap.size s1.length) s1 nm w2 l0 (by omega) (M0.out.cols.later m1.below) m1.cols
  clear m1 K1
  go_wp2_with fail
  refine KA.mono ?_
  rintro e w3 ⟨⟨bb, rfl, hbb⟩, hb3⟩
  have HBB : Hid (bb = true ↔ Has s0 nm s0.length ∨ Has s1 nm s1.length) := hbb
  have HB3 : Hid (Below w2.heap.size w2 w3) := hb3
  clear KA hbb hb3
  have z0 : w1.heap.size = w.heap.size + 1 + s0.length := M0.out.size
  have z1 : w2.heap.size = w1.heap.size + 1 + s1.length := M1.out.size
  have z3 : w2.heap.size ≤ w3.heap.size := HB3.out.size
  have HO : Hid (w3.ownsRow w1.heap.size 36 1 (.slice (some ⟨w1.heap.size, 0, none⟩) s1.length (s1.length + 1)) s1.length ((qsOf w1.heap.size s1.length).map ptr)) :=
    owns_of_row (M1.out.row.of_block (HB3.out.block _ (by omega))) (fun i hi => by simp [hi, ptr]) (by unfold maxLen; omega)
  have L3 : Hid (w1.heap.size ≤ w3.heap.size) := by show _ ≤ _; omega
  have Z0 : Hid (w1.heap.size = w.heap.size + 1 + s0.length) := z0
  have Z1 : Hid (w2.heap.size = w1.heap.size + 1 + s1.length) := z1
  have Z3 : Hid (w2.heap.size ≤ w3.heap.size) := z3
  clear z0 z1 z3
  obtain ⟨i36, hi, hz0, hz1, hz2⟩ := info_parts Trym.info36
  go_wp2_with (at_builtin; (refine wpList_append_own _ rfl (.tmp 41) (.tmp 45) 34 rfl w1.heap.size 36 i36 (.pointer none) 1 8 Trym.underlying34 hi hz0 hz1 hz2 rfl (by decide) _ _ _ rfl ((HO.out.alloc _).alloc _) ⟨w3.heap.size + 1, 0, none⟩ 1 1 [ptr w3.heap.size] rfl rfl ?c1 ?c2 ?c3 ?c4 ?c5 ?_))
  case c1 =>
    intro j u hj
    match j, hj with
    | 0, hj => simp at hj; subst hj; simp [Addr.add, ptr]
  case c2 => intro u hu; simp at hu; subst hu; rfl
  case c3 => unfold maxLen; omega
  case c4 => omega
  case c5 => have := L3.out; simp; omega
  intro v' w5 hown' hgrow _
  obtain ⟨⟨g, cap, hv, hcols⟩, hc0, hbel⟩ := after_append _ _ rfl ((M0.out.cols.later M1.out.below).later HB3.out) (M1.out.cols.later HB3.out) (by have := Z0.out; omega) (by have := Z1.out; have := Z3.out; omega) hown' hgrow
  have B5 : Hid (Below w.heap.size w w5) := (B2.out.trans (HB3.out.mono (by have := Z0.out; have := Z1.out; omega))).trans (hbel.mono (by have := Z0.out; omega))
  have C5 : Hid (Cols w5 g (qsOf w1.heap.size s1.length ++ [w3.heap.size]) (s1 ++ [ex])) := hcols
  have D5 : Hid (Cols w5 w.heap.size (qsOf w.heap.size s0.length) s0) := hc0
  have len : (s1 ++ [ex]).length = s1.length + 1 := by simp
  have KA := zzAllows_any none w.heap.size (s0.length + 1) g cap (qsOf w.heap.size s0.length) s0 (qsOf w1.heap.size s1.length ++ [w3.heap.size]) (s1 ++ [ex]) nm w5 l0 (by omega) hc0 hcols
  rw [len] at KA
  rw [hv]
  clear hv hown' hgrow hcols hc0 hbel hi hz0 hz1 hz2 HO len
  go_wp2_with fail
  refine KA.mono ?_
  rintro e w6 ⟨⟨ba, rfl, hba⟩, hb6⟩
  have HBA : Hid (ba = true ↔ Has s0 nm s0.length ∨ Has (s1 ++ [ex]) nm (s1.length + 1)) := hba
  have B6 : Hid (Below w5.heap.size w5 w6) := hb6
  have KE := zzAllows_any none w.heap.size (s0.length + 1) g cap (qsOf w.heap.size s0.length) s0 (qsOf w1.heap.size s1.length ++ [w3.heap.size]) (s1 ++ [ex]) ex w6 l0 (by simp; omega) (D5.out.later hb6) (C5.out.later hb6)
  rw [show (s1 ++ [ex]).length = s1.length + 1 by simp] at KE
  clear hba hb6 KA
  go_wp2_with fail
  refine KE.mono ?_
  rintro e w7 ⟨⟨be, rfl, hbe⟩, hb7⟩
  obtain rfl : be = true := hbe.2 (.inr (Has.snoc.2 (.inr rfl)))
  have B7 : Hid (Below w.heap.size w w7) := (B5.out.trans (B6.out.mono B5.out.size)).trans (hb7.mono (Nat.le_trans B5.out.size B6.out.size))
  clear hbe hb7 KE
  have HEQ : Hid (ba = true ↔ bb = true ∨ nm.toList = ex.toList) := by
    show ba = true ↔ bb = true ∨ nm.toList = ex.toList
    rw [HBA.out, HBB.out, Has.snoc, or_assoc]
  by_cases en : nm.toList = ex.toList
  · have enb : (nm.toList == ex.toList) = true := by rw [en]; simp
    obtain rfl : ba = true := HEQ.out.2 (.inr en)
    clear HEQ HBA HBB en
    cases bb
    · go_wp2
      go_ret
      exact ⟨rfl, B7.out⟩
    · go_wp2
      go_ret
      exact ⟨rfl, B7.out⟩
  · have enb : (nm.toList == ex.toList) = false := by simpa using en
    obtain rfl : ba = bb := bool_eq_of HEQ.out en
    clear HEQ HBA HBB en
    cases ba
    · go_wp2
      go_ret
      exact ⟨rfl, B7.out⟩
    · go_wp2
      go_ret
      exact ⟨rfl, B7.out⟩


/-! ### THE ROW's STEP -/
set_option maxRecDepth 100000 in
theorem lifted (os : Os) (started : os.Started) (H : Type) (enc : TypeId × Value → H) :
    ReturnsInHanded {} Trym.checked os 8 .any (Rows.fnAllowsGrowsWithAllowSpec.pre6 enc Trym.prog Trym.f8 Rows.fnAllowsGrowsWithAllowRow.domain false) (Rows.fnAllowsGrowsWithAllowSpec.post enc Trym.prog Trym.f8 false true false false) := by
  refine returnsInHanded_of_change (C := Trym.checked) own started (by kernel_rfl) Trym.func8
    (ChangeSpec.witness6 (enc := enc) (C := Trym.checked) false ⟨#[], #[.slice none 0 0, .slice none 0 0, .string ByteArray.empty, .string ByteArray.empty], []⟩ 8 (by kernel_rfl) (by kernel_rfl) (by kernel_rfl) (by kernel_rfl)) ?_
  intro W base args ds gs before hval0 hW hcnd _
  have hval : ∀ (j : Nat) t v, Trym.f8.params[j]? = some t → args[j]? = some v → Value.okWide Trym.prog W .any base t v := hval0
  have hW' := hW
  obtain ⟨p, q, hA0, hV, rfl, hfz, hnd⟩ := hW
  have hA : DataW.TrodAll enc Trym.prog W 0 (fun _ => true) true Trym.f8.params.toList args.toList ds p := hA0
  rw [Trym.params8] at hA hval
  obtain ⟨v0, vs0, d0, ds0, p0, q0, hargs, rfl, rfl, h0, r0⟩ := trodAll_cons hA
  obtain ⟨v1, vs1, d1, ds1, p1, q1, rfl, rfl, rfl, h1, r1⟩ := trodAll_cons r0
  obtain ⟨v2, vs2, d2, ds2, p2, q2, rfl, rfl, rfl, h2, r2⟩ := trodAll_cons r1
  obtain ⟨v3, vs3, d3, ds3, p3, q3, rfl, rfl, rfl, h3, r3⟩ := trodAll_cons r2
  obtain ⟨rfl, rfl, rfl⟩ := trodAll_nil r3
  obtain rfl : args = #[v0, v1, v2, v3] := by cases args; simp_all
  obtain ⟨rfl, rfl⟩ := trodVars_none hV
  obtain ⟨a0, len0, cap0, rfl⟩ := okWide_slice Trym.underlying31 (hval 0 31 v0 rfl rfl)
  have k0 := h0
  have lt0 : ∀ x ∈ p0, x.block < W.heap.size := by obtain ⟨m, hm⟩ := k0; exact DataW.trod_lt m _ _ _ hm
  obtain ⟨z0, zl0, w0⟩ : ∃ ss, ss.length = len0 ∧ IsStrs W a0 ss := by
    obtain ⟨fuel, hf⟩ := h0
    rcases open_strings Trym.underlying31 Trym.underlying9 (by kernel_rfl) hf with ⟨hcs, _⟩ | ⟨x, l, c, zs, hcs, _, hl, hm, hz, _, hcell, hwz⟩
    · simp [Value.cells] at hcs
      obtain ⟨rfl, rfl, rfl⟩ := hcs
      exact ⟨[], rfl, isStrs_nil _ _⟩
    · simp [Value.cells] at hcs
      obtain ⟨rfl, rfl, rfl⟩ := hcs
      exact isStrs_of hl hm (by simpa using hz) hcell hwz
  obtain ⟨a1, len1, cap1, rfl⟩ := okWide_slice Trym.underlying31 (hval 1 31 v1 rfl rfl)
  have k1 := h1
  have lt1 : ∀ x ∈ p1, x.block < W.heap.size := by obtain ⟨m, hm⟩ := k1; exact DataW.trod_lt m _ _ _ hm
  obtain ⟨z1, zl1, w1⟩ : ∃ ss, ss.length = len1 ∧ IsStrs W a1 ss := by
    obtain ⟨fuel, hf⟩ := h1
    rcases open_strings Trym.underlying31 Trym.underlying9 (by kernel_rfl) hf with ⟨hcs, _⟩ | ⟨x, l, c, zs, hcs, _, hl, hm, hz, _, hcell, hwz⟩
    · simp [Value.cells] at hcs
      obtain ⟨rfl, rfl, rfl⟩ := hcs
      exact ⟨[], rfl, isStrs_nil _ _⟩
    · simp [Value.cells] at hcs
      obtain ⟨rfl, rfl, rfl⟩ := hcs
      exact isStrs_of hl hm (by simpa using hz) hcell hwz
  obtain ⟨a2, rfl, rfl, rfl, w2⟩ := open_string Trym.underlying9 (hval 2 9 v2 rfl rfl) h2
  obtain ⟨a3, rfl, rfl, rfl, w3⟩ := open_string Trym.underlying9 (hval 3 9 v3 rfl rfl) h3
  clear hA0 hval0
  subst zl0 zl1
  refine (walk a0 z0 cap0 a1 z1 cap1 a2 a3 W w0 w1 w2 w3).mono fun e W' ⟨he, bel⟩ => ?_
  subst he
  exact ⟨_, rfl, _, _, _, [], _, [], hW', trodAll_mk1 (shut_bool Trym.underlying4 _), (trodAll_cons_mk (Below.trod laidOut (by kernel_rfl) (of_decide_eq_true (by kernel_rfl)) k0 bel lt0) (trodAll_cons_mk (Below.trod laidOut (by kernel_rfl) (of_decide_eq_true (by kernel_rfl)) k1 bel lt1) (trodAll_cons_mk (shut_string Trym.underlying9 w2) (trodAll_cons_mk (shut_string Trym.underlying9 w3) trodAll_mk0)))), rfl, bel.frame _, fun h => by cases h⟩

set_option maxRecDepth 100000 in
theorem closed : joinedFacts Trym.prog 8 Trym.f8 Rows.fnAllowsGrowsWithAllowSpec Rows.fnAllowsGrowsWithAllowRow = true := by
  delta joinedFacts
  repeat' (with_reducible refine and_intro ?_ ?_)
  all_goals first | (with_reducible exact may_enter) | (with_reducible refine make_ok _ ?_; with_unfolding_all rfl) | (with_reducible refine lifts_ok _ ?_; with_unfolding_all rfl) | kernel_rfl

theorem over : Rows.fnAllowsGrowsWithAllowRow.holds Trym.pinned (OpenSpec.ofChange Rows.fnAllowsGrowsWithAllowSpec) :=
  OpenClaim.holds_of_wide 8 Trym.f8 rfl rfl rfl rfl rfl rfl rfl ⟨rfl, rfl, rfl, rfl, rfl⟩ rfl rfl rfl rfl rfl (by kernel_rfl) Trym.func8 closed
    (of_decide_eq_true (by kernel_rfl)) (by unfold Func.isWrapper; first | (rw [if_pos (by decide +kernel)]; kernel_rfl) | (rw [if_neg (by decide +kernel)]; exact ⟨rfl, rfl⟩))
    (fun os started H enc _ => lifted os started H enc)

/-- ████ THE STATEMENT ████ -/
theorem proved : Rows.FnAllowsGrowsWithAllowSaid := over
#print axioms proved
end Go.Proofs.Qxb6001828aMods.fnAllowsGrowsWithAllow
