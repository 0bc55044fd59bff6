/-
  The closed facts on the head of the translation (mayEnter, make, liftsFinal), proved without letting the kernel decode the whole head: it is long, and the kernel's own run of that decoding outgrows the memory lid.
-/
import Derived.Test.Qxb6001828aModsRows
import Derived.WalkKit
import Derived.ProofKit
namespace Go.Proofs.Qxb6001828aMods

set_option maxRecDepth 100000 in
theorem head_list : ∃ l, Trym.prog.initOrder.toList = l ∧ (l.take 88 == "harness 1d1da5da88918abf881d9220f5f5b62c664c09fa5744f8bc54b440f4df3c3b1a publicsums cut ".toList) = true := ⟨_, String.toList_ofList, by kernel_rfl⟩

set_option maxRecDepth 100000 in
theorem head_signs (r : List Char) : behindMainWord (wordsSigns ("harness 1d1da5da88918abf881d9220f5f5b62c664c09fa5744f8bc54b440f4df3c3b1a publicsums cut ".toList ++ r)) = "publicsums".toList :: "cut".toList :: wordsSigns r := by
  kernel_rfl

theorem head_words : ∃ rest, behindMainWord (wordsSigns Trym.prog.initOrder.toList) = "publicsums".toList :: "cut".toList :: rest := by
  obtain ⟨l, hl, ht⟩ := head_list
  have ht' := eq_of_beq ht
  refine ⟨wordsSigns (l.drop 88), ?_⟩
  rw [hl, ← head_signs, ← ht', List.take_append_drop]

theorem head_strip (rest : List (List Char)) : stripLifts liftWords ("publicsums".toList :: "cut".toList :: rest) = (["publicsums"], "cut".toList :: rest) := by kernel_rfl

theorem lays_later : Trym.prog.laysLater = false := by kernel_rfl
theorem bears_reflect : Trym.prog.bearsReflect = false := by kernel_rfl
theorem door_fits : Trym.prog.doorFits ["publicsums"] = true := by kernel_rfl

/- Each of the three over a program that is a variable: nothing is left for the kernel to run. -/
theorem head_lifts_of (P : Program) (rest : List (List Char)) (h : behindMainWord (wordsSigns P.initOrder.toList) = "publicsums".toList :: "cut".toList :: rest) : P.headLifts = ["publicsums"] := by
  unfold Program.headLifts
  rw [h, head_strip]
  rfl

theorem may_enter_of (P : Program) (rest : List (List Char)) (h : behindMainWord (wordsSigns P.initOrder.toList) = "publicsums".toList :: "cut".toList :: rest)
    (h1 : P.laysLater = false) (h2 : P.bearsReflect = false) (h3 : P.doorFits ["publicsums"] = true) : P.mayEnter = true := by
  unfold Program.mayEnter
  rw [h]
  simp only []
  rw [head_strip, h1, h2]
  simp only []
  rw [h3]
  rfl

theorem make_of (P : Program) (rest : List (List Char)) (h : behindMainWord (wordsSigns P.initOrder.toList) = "publicsums".toList :: "cut".toList :: rest) : P.make = some (.lifted ["publicsums"]) := by
  unfold Program.make
  rw [h, head_lifts_of P rest h]
  rfl

theorem lifts_final_of (P : Program) (rest : List (List Char)) (h : behindMainWord (wordsSigns P.initOrder.toList) = "publicsums".toList :: "cut".toList :: rest) : P.liftsFinal = false := by
  unfold Program.liftsFinal
  rw [h, head_lifts_of P rest h]
  rfl

theorem may_enter : Trym.prog.mayEnter = true := by
  obtain ⟨rest, h⟩ := head_words
  exact may_enter_of _ rest h lays_later bears_reflect door_fits

theorem make_is : Trym.prog.make = some (.lifted ["publicsums"]) := by
  obtain ⟨rest, h⟩ := head_words
  exact make_of _ rest h

theorem lifts_final : Trym.prog.liftsFinal = false := by
  obtain ⟨rest, h⟩ := head_words
  exact lifts_final_of _ rest h

theorem make_ok (c : OpenClaim) (h : c.make = .lifted ["publicsums"]) : (Trym.prog.make == some c.make) = true := by rw [make_is, h]; rfl
theorem lifts_ok (c : OpenClaim) (h : c.lifted = false) : (c.lifted == Trym.prog.liftsFinal) = true := by rw [lifts_final, h]; rfl

theorem and_intro {a b : Bool} (h1 : a = true) (h2 : b = true) : (a && b) = true := by rw [h1, h2]; rfl

end Go.Proofs.Qxb6001828aMods
