/-
  'Rows.FnMustHoldImpliesAllowedSaid', proved. The frame is the guide's own make (proof-skeleton.mjs), turned to slices of strings; the walk is out of the contracts.
-/
import Derived.Test.Qxb6001828aModsRows
import Derived.Test.Qxb6001828aModsHead
import Derived.Test.Qxb6001828aModsZz28
import Derived.Test.Qxb6001828aModsCand
import Derived.Test.Qxb6001828aModsOpen
import Derived.WalkKit
import Derived.ProofKit
import Derived.OpenShut
import Derived.ShutString
import Derived.ChangeOld
import Derived.Below
import Derived.SliceStrings
namespace Go.Proofs.Qxb6001828aMods.fnMustHoldImpliesAllowed
open Go.ChangeShapes Go.WideShapes Go.ChangeAt Go.RowKit
open Go.ChangeMaps (open_string shut_string)
set_option linter.unusedVariables false

theorem own : ownKnob Trym.prog.godebug = none := by kernel_rfl
theorem laidOut : laidOutB Trym.prog = true := by kernel_rfl



/-- A must column is found among the must columns, no other is: by the blocks' numbers. -/
theorem leads_iff {w w1 w2 w3 : World} {s0 s1 : List ByteArray} {p cb : Nat} {t : ByteArray} (m0 : Made w.heap.size w w1 s0 s0.length s0.length) (m1 : Made w1.heap.size w1 w2 s1 s1.length s1.length)
    (hp : Picks w2 (qsOf w.heap.size s0.length) s0 (qsOf w1.heap.size s1.length) s1.length p cb t w3) : Leads (qsOf w.heap.size s0.length) cb s0.length ↔ p < s0.length := by
  have z0 := m0.size
  have z1 := m1.size
  constructor
  · rintro ⟨i, hi, e⟩
    rw [qsOf_getD hi] at e
    by_cases h : p < s0.length
    · exact h
    · exfalso
      by_cases h2 : p < s0.length + s1.length
      · have := hp.allow (by omega) h2
        rw [qsOf_getD (by omega)] at this
        omega
      · have := hp.fresh (by omega)
        omega
  · intro h
    exact ⟨p, h, (hp.must h).1.symm⟩

/-! ### THE WALK -/
set_option maxHeartbeats 1000000 in
theorem walk (a0 : Option Addr) (s0 : List ByteArray) (c0 : Nat) (a1 : Option Addr) (s1 : List ByteArray) (c1 : Nat) (pk : Int) (w : World) (i0 : IsStrs w a0 s0) (i1 : IsStrs w a1 s1) (w2 : (Lit.int .i64 pk).wf = true) :
    Calls Trym.prog 11 #[.slice a0 s0.length c0, .slice a1 s1.length c1, .int .i64 pk] w fun e w' => e = .returned (.bool true) ∧ Below w.heap.size w w' := by
  have H28 := zzBytes28_any a0 s0 c0 a1 s1 c1 pk w i0.at' i1.at' i0.len i1.len i0.size i1.size
  have A0 : Hid (StrsAt w a0 s0) := i0.at'
  have A1 : Hid (StrsAt w a1 s1) := i1.at'
  clear i0 i1 w2
  have cs : pk < 0 ∨ ((s0.length : Int) + (s1.length : Int) < pk ∧ 0 ≤ pk) ∨ ∃ p : Nat, pk = (p : Int) ∧ p ≤ s0.length + s1.length := by
    by_cases h1 : pk < 0
    · exact .inl h1
    · by_cases h2 : (s0.length : Int) + (s1.length : Int) < pk
      · exact .inr (.inl ⟨h2, by omega⟩)
      · exact .inr (.inr ⟨pk.toNat, by omega, by omega⟩)
  go_enter Trym.func11, Trym.ntmps11
  go_wp2_with fail
  refine H28.mono ?_
  rintro e w' ⟨⟨b, rfl, hb⟩, hw⟩
  have hw := hw.symm
  subst hw
  cases b
  · clear hb H28 cs
    go_wp2
    go_ret
    exact ⟨rfl, Below.refl _ _⟩
  obtain ⟨sm0, sm1⟩ := hb rfl
  have N0 := namesBytes_any a0 s0 c0 w A0.out sm0
  have N1 := namesBytes_any a1 s1 c1 w A1.out sm1
  have l0 : s0.length ≤ 1048576 := sm0.1
  have l1 : s1.length ≤ 1048576 := sm1.1
  clear hb H28 sm0 sm1
  go_wp2_with fail
  refine N0.mono ?_
  rintro e w' ⟨⟨x0, rfl, hx0, hx0'⟩, hw⟩
  have hw := hw.symm
  subst hw
  clear N0
  go_wp2_with fail
  refine N1.mono ?_
  rintro e w' ⟨⟨x1, rfl, hx1, hx1'⟩, hw⟩
  have hw := hw.symm
  subst hw
  clear N1
  by_cases big : 1048576 < x0 + x1
  · clear cs
    go_wp2
    go_ret
    exact ⟨rfl, Below.refl _ _⟩
  rcases cs with h | h | ⟨p, rfl, hp⟩
  · go_wp2
    go_ret
    exact ⟨rfl, Below.refl _ _⟩
  · have hd : decide (pk < 0) = false := decide_eq_false (by omega)
    go_wp2
    go_ret
    exact ⟨rfl, Below.refl _ _⟩
  have K0 := columnsOf_any a0 s0 c0 w A0.out l0
  go_wp2_with fail
  refine K0.mono ?_
  rintro e w1 ⟨rfl, m0⟩
  have M0 : Hid (Made w.heap.size w w1 s0 s0.length s0.length) := m0
  have K1 := columnsOf_any a1 s1 c1 w1 (A1.out.later m0.below) l1
  clear m0 K0
  go_wp2_with fail
  refine K1.mono ?_
  rintro e w2 ⟨rfl, m1⟩
  have M1 : Hid (Made w1.heap.size w1 w2 s1 s1.length s1.length) := m1
  have B2 : Hid (Below w.heap.size w w2) := M0.out.below.trans (m1.below.mono (by have := M0.out.size; omega))
  have KC := candidate_any w.heap.size (s0.length + 1) w1.heap.size (s1.length + 1) a0 c0 (qsOf w.heap.size s0.length) s0 (qsOf w1.heap.size s1.length) s1 p w2 l0 l1 (by omega) (M0.out.cols.later m1.below) m1.cols (A0.out.later B2.out)
  clear m1 K1
  go_wp2_with fail
  refine KC.mono ?_
  rintro e w3 ⟨cb, t, rfl, hpk⟩
  have HP : Hid (Picks w2 (qsOf w.heap.size s0.length) s0 (qsOf w1.heap.size s1.length) s1.length p cb t w3) := hpk
  have KM := zzMustHold_any none w.heap.size (s0.length + 1) cb (some ⟨w1.heap.size, 0, none⟩) s1.length (s1.length + 1) (qsOf w.heap.size s0.length) s0 t w3 l0 ((M0.out.cols.later M1.out.below).later hpk.below) hpk.col
  clear hpk KC
  go_wp2_with fail
  refine KM.mono ?_
  rintro e w4 ⟨⟨b, rfl, hb⟩, hb4⟩
  rw [leads_iff M0.out M1.out HP.out] at hb
  have B4 : Hid (Below w.heap.size w w4) := (B2.out.trans (HP.out.below.mono B2.out.size)).trans (hb4.mono (Nat.le_trans B2.out.size HP.out.below.size))
  have HB4 : Hid (Below w3.heap.size w3 w4) := hb4
  clear KM hb4
  cases b
  · clear hb
    go_wp2
    go_ret
    exact ⟨rfl, B4.out⟩
  have hlt : p < s0.length := hb.1 rfl
  clear hb
  have gt : w4.cell? ⟨cb, 0, none⟩ = some (.string t) := (HP.out.col.of_block (HB4.out.block _ HP.out.col.lt)).cell
  have KA := zzAllows_any none w.heap.size (s0.length + 1) w1.heap.size (s1.length + 1) (qsOf w.heap.size s0.length) s0 (qsOf w1.heap.size s1.length) s1 t w4 l0 (by omega)
    (((M0.out.cols.later M1.out.below).later HP.out.below).later HB4.out) ((M1.out.cols.later HP.out.below).later HB4.out)
  have HY : Hid (Has s0 t s0.length ∨ Has s1 t s1.length) := .inl ⟨p, hlt, by rw [(HP.out.must hlt).2]⟩
  obtain ⟨Q, hQ⟩ : ∃ Q, Q = (Has s0 t s0.length ∨ Has s1 t s1.length) := ⟨_, rfl⟩
  rw [← hQ] at KA HY
  clear hQ
  go_wp2_with fail
  refine KA.mono ?_
  rintro e w5 ⟨⟨b, rfl, hb⟩, hb5⟩
  obtain rfl : b = true := hb.2 HY.out
  have B5 : Hid (Below w.heap.size w w5) := B4.out.trans (hb5.mono B4.out.size)
  clear hb hb5 KA
  go_wp2
  go_ret
  exact ⟨rfl, B5.out⟩


/-! ### THE ROW's STEP -/
set_option maxRecDepth 100000 in
theorem lifted (os : Os) (started : os.Started) (H : Type) (enc : TypeId × Value → H) :
    ReturnsInHanded {} Trym.checked os 11 .any (Rows.fnMustHoldImpliesAllowedSpec.pre6 enc Trym.prog Trym.f11 Rows.fnMustHoldImpliesAllowedRow.domain false) (Rows.fnMustHoldImpliesAllowedSpec.post enc Trym.prog Trym.f11 false true false false) := by
  refine returnsInHanded_of_change (C := Trym.checked) own started (by kernel_rfl) Trym.func11
    (ChangeSpec.witness6 (enc := enc) (C := Trym.checked) false ⟨#[], #[.slice none 0 0, .slice none 0 0, .int .i64 0], []⟩ 8 (by kernel_rfl) (by kernel_rfl) (by kernel_rfl) (by kernel_rfl)) ?_
  intro W base args ds gs before hval0 hW hcnd _
  have hval : ∀ (j : Nat) t v, Trym.f11.params[j]? = some t → args[j]? = some v → Value.okWide Trym.prog W .any base t v := hval0
  have hW' := hW
  obtain ⟨p, q, hA0, hV, rfl, hfz, hnd⟩ := hW
  have hA : DataW.TrodAll enc Trym.prog W 0 (fun _ => true) true Trym.f11.params.toList args.toList ds p := hA0
  rw [Trym.params11] at hA hval
  obtain ⟨v0, vs0, d0, ds0, p0, q0, hargs, rfl, rfl, h0, r0⟩ := trodAll_cons hA
  obtain ⟨v1, vs1, d1, ds1, p1, q1, rfl, rfl, rfl, h1, r1⟩ := trodAll_cons r0
  obtain ⟨v2, vs2, d2, ds2, p2, q2, rfl, rfl, rfl, h2, r2⟩ := trodAll_cons r1
  obtain ⟨rfl, rfl, rfl⟩ := trodAll_nil r2
  obtain rfl : args = #[v0, v1, v2] := by cases args; simp_all
  obtain ⟨rfl, rfl⟩ := trodVars_none hV
  obtain ⟨a0, len0, cap0, rfl⟩ := okWide_slice Trym.underlying31 (hval 0 31 v0 rfl rfl)
  have k0 := h0
  have lt0 : ∀ x ∈ p0, x.block < W.heap.size := by obtain ⟨m, hm⟩ := k0; exact DataW.trod_lt m _ _ _ hm
  obtain ⟨z0, zl0, w0⟩ : ∃ ss, ss.length = len0 ∧ IsStrs W a0 ss := by
    obtain ⟨fuel, hf⟩ := h0
    rcases open_strings Trym.underlying31 Trym.underlying9 (by kernel_rfl) hf with ⟨hcs, _⟩ | ⟨x, l, c, zs, hcs, _, hl, hm, hz, _, hcell, hwz⟩
    · simp [Value.cells] at hcs
      obtain ⟨rfl, rfl, rfl⟩ := hcs
      exact ⟨[], rfl, isStrs_nil _ _⟩
    · simp [Value.cells] at hcs
      obtain ⟨rfl, rfl, rfl⟩ := hcs
      exact isStrs_of hl hm (by simpa using hz) hcell hwz
  obtain ⟨a1, len1, cap1, rfl⟩ := okWide_slice Trym.underlying31 (hval 1 31 v1 rfl rfl)
  have k1 := h1
  have lt1 : ∀ x ∈ p1, x.block < W.heap.size := by obtain ⟨m, hm⟩ := k1; exact DataW.trod_lt m _ _ _ hm
  obtain ⟨z1, zl1, w1⟩ : ∃ ss, ss.length = len1 ∧ IsStrs W a1 ss := by
    obtain ⟨fuel, hf⟩ := h1
    rcases open_strings Trym.underlying31 Trym.underlying9 (by kernel_rfl) hf with ⟨hcs, _⟩ | ⟨x, l, c, zs, hcs, _, hl, hm, hz, _, hcell, hwz⟩
    · simp [Value.cells] at hcs
      obtain ⟨rfl, rfl, rfl⟩ := hcs
      exact ⟨[], rfl, isStrs_nil _ _⟩
    · simp [Value.cells] at hcs
      obtain ⟨rfl, rfl, rfl⟩ := hcs
      exact isStrs_of hl hm (by simpa using hz) hcell hwz
  obtain ⟨a2, rfl, rfl, rfl, w2⟩ := open_int Trym.underlying3 (hval 2 3 v2 rfl rfl) h2
  clear hA0 hval0
  subst zl0 zl1
  refine (walk a0 z0 cap0 a1 z1 cap1 a2 W w0 w1 w2).mono fun e W' ⟨he, bel⟩ => ?_
  subst he
  exact ⟨_, rfl, _, _, _, [], _, [], hW', trodAll_mk1 (shut_bool Trym.underlying4 _), (trodAll_cons_mk (Below.trod laidOut (by kernel_rfl) (of_decide_eq_true (by kernel_rfl)) k0 bel lt0) (trodAll_cons_mk (Below.trod laidOut (by kernel_rfl) (of_decide_eq_true (by kernel_rfl)) k1 bel lt1) (trodAll_cons_mk (shut_int Trym.underlying3 w2) trodAll_mk0))), rfl, bel.frame _, fun h => by cases h⟩

set_option maxRecDepth 100000 in
theorem closed : joinedFacts Trym.prog 11 Trym.f11 Rows.fnMustHoldImpliesAllowedSpec Rows.fnMustHoldImpliesAllowedRow = true := by
  delta joinedFacts
  repeat' (with_reducible refine and_intro ?_ ?_)
  all_goals first | (with_reducible exact may_enter) | (with_reducible refine make_ok _ ?_; with_unfolding_all rfl) | (with_reducible refine lifts_ok _ ?_; with_unfolding_all rfl) | kernel_rfl

theorem over : Rows.fnMustHoldImpliesAllowedRow.holds Trym.pinned (OpenSpec.ofChange Rows.fnMustHoldImpliesAllowedSpec) :=
  OpenClaim.holds_of_wide 11 Trym.f11 rfl rfl rfl rfl rfl rfl rfl ⟨rfl, rfl, rfl, rfl, rfl⟩ rfl rfl rfl rfl rfl (by kernel_rfl) Trym.func11 closed
    (of_decide_eq_true (by kernel_rfl)) (by unfold Func.isWrapper; first | (rw [if_pos (by decide +kernel)]; kernel_rfl) | (rw [if_neg (by decide +kernel)]; exact ⟨rfl, rfl⟩))
    (fun os started H enc _ => lifted os started H enc)

/-- ████ THE STATEMENT ████ -/
theorem proved : Rows.FnMustHoldImpliesAllowedSaid := over
#print axioms proved
end Go.Proofs.Qxb6001828aMods.fnMustHoldImpliesAllowed
