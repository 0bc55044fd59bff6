/-
  No cell of these rows narrows 'for every input' (looked for: loops, veiled, ifaces, maps, wideKeys, modest, calm, conditions, laid).
  DERIVED. THE GIVEN ROWS OF THIS SEAT. 9 by the template 'for every input the law returns true; each argument reads behind the call as it read before'; 0 by the template 'total and deterministic' (their statements: Qxb6001828aModsTotals.lean).
  GIVEN WITH THE SEED: the statements are not yours to turn. If you find one false, say at which input.
  Laid BY PROGRAM, IN A SANDBOX (cutbox-rows.mjs): the forced cells as the released guide's own fill.sh prints them over the translation d2ee7350377e52a9… (all of the seat's roots in one cut). By AI agents, Wed Nov 11 2026. No macro, syntax, notation, axiom, sorry.
-/
import Derived.Test.Qxb6001828aModsChecked
import GoSem.Claim
import GoSem.ClaimJoined
import GoSem.ClaimMapViews
import Derived.JoinedTies
import Derived.KernelRfl
namespace Go.Proofs.Qxb6001828aMods
/- THE CELL 'sum', in the pinned program and in every row, IS THE sha256 OF THE DUMP (.gsa) THAT Qxb6001828aModsProg.lean LOADS. Nothing in Lean hashes anything: it is a label: what it is worth is what the hold of that sum in a sandbox is worth. -/
noncomputable def Trym.pinned : Pinned := { name := "qxb6001828amods", sum := "d2ee7350377e52a90d4a29dbb289e755688b7409f87f7d0778ea62287864921b", checked := Trym.checked }
namespace Rows
def none {H : Type} : Left H := { results := [], args := [] }

/-- 'zzlaws_server_b1.FnKindValueNamedIffDeclaredAndTakesEqual': WHATEVER THE INPUT: true; the input reads as it did. -/
def fnKindValueNamedIffDeclaredAndTakesEqualSpec : ChangeSpec := { name := "fnKindValueNamedIffDeclaredAndTakesEqual", fn := fun _ => fun
  | [d] => { results := [.lit (.bool true)], args := [d] }
  | _ => none }
def fnKindValueNamedIffDeclaredAndTakesEqualRow : OpenClaim := { program := "qxb6001828amods", sum := "d2ee7350377e52a90d4a29dbb289e755688b7409f87f7d0778ea62287864921b", func := "example.com/shapewire/shapewire/zzlaws_server_b1.FnKindValueNamedIffDeclaredAndTakesEqual", spec := "fnKindValueNamedIffDeclaredAndTakesEqual", make := .lifted ["publicsums"], apart := false }
def FnKindValueNamedIffDeclaredAndTakesEqualSaid : Prop := fnKindValueNamedIffDeclaredAndTakesEqualRow.holds Trym.pinned (OpenSpec.ofChange fnKindValueNamedIffDeclaredAndTakesEqualSpec)

/-- ITS FALSE NEIGHBOUR: 'it returns false'. Refute it at one input. -/
def fnKindValueNamedIffDeclaredAndTakesEqualWrong : ChangeSpec := { name := "fnKindValueNamedIffDeclaredAndTakesEqual", fn := fun _ => fun
  | [d] => { results := [.lit (.bool false)], args := [d] }
  | _ => none }
def FnKindValueNamedIffDeclaredAndTakesEqualWrongFalsely : Prop := fnKindValueNamedIffDeclaredAndTakesEqualRow.holds Trym.pinned (OpenSpec.ofChange fnKindValueNamedIffDeclaredAndTakesEqualWrong)

/-- 'zzlaws_server_b1.FnKindValueDistinctKindsDistinctNames': WHATEVER THE INPUT: true; the input reads as it did. -/
def fnKindValueDistinctKindsDistinctNamesSpec : ChangeSpec := { name := "fnKindValueDistinctKindsDistinctNames", fn := fun _ => fun
  | [d1, d2] => { results := [.lit (.bool true)], args := [d1, d2] }
  | _ => none }
def fnKindValueDistinctKindsDistinctNamesRow : OpenClaim := { program := "qxb6001828amods", sum := "d2ee7350377e52a90d4a29dbb289e755688b7409f87f7d0778ea62287864921b", func := "example.com/shapewire/shapewire/zzlaws_server_b1.FnKindValueDistinctKindsDistinctNames", spec := "fnKindValueDistinctKindsDistinctNames", make := .lifted ["publicsums"], apart := false }
def FnKindValueDistinctKindsDistinctNamesSaid : Prop := fnKindValueDistinctKindsDistinctNamesRow.holds Trym.pinned (OpenSpec.ofChange fnKindValueDistinctKindsDistinctNamesSpec)

/-- ITS FALSE NEIGHBOUR: 'it returns false'. Refute it at one input. -/
def fnKindValueDistinctKindsDistinctNamesWrong : ChangeSpec := { name := "fnKindValueDistinctKindsDistinctNames", fn := fun _ => fun
  | [d1, d2] => { results := [.lit (.bool false)], args := [d1, d2] }
  | _ => none }
def FnKindValueDistinctKindsDistinctNamesWrongFalsely : Prop := fnKindValueDistinctKindsDistinctNamesRow.holds Trym.pinned (OpenSpec.ofChange fnKindValueDistinctKindsDistinctNamesWrong)

/-- 'zzlaws_server_b1.FnIsWordOfConcatenation': WHATEVER THE INPUT: true; the input reads as it did. -/
def fnIsWordOfConcatenationSpec : ChangeSpec := { name := "fnIsWordOfConcatenation", fn := fun _ => fun
  | [d1, d2] => { results := [.lit (.bool true)], args := [d1, d2] }
  | _ => none }
def fnIsWordOfConcatenationRow : OpenClaim := { program := "qxb6001828amods", sum := "d2ee7350377e52a90d4a29dbb289e755688b7409f87f7d0778ea62287864921b", func := "example.com/shapewire/shapewire/zzlaws_server_b1.FnIsWordOfConcatenation", spec := "fnIsWordOfConcatenation", make := .lifted ["publicsums"], apart := false }
def FnIsWordOfConcatenationSaid : Prop := fnIsWordOfConcatenationRow.holds Trym.pinned (OpenSpec.ofChange fnIsWordOfConcatenationSpec)

/-- ITS FALSE NEIGHBOUR: 'it returns false'. Refute it at one input. -/
def fnIsWordOfConcatenationWrong : ChangeSpec := { name := "fnIsWordOfConcatenation", fn := fun _ => fun
  | [d1, d2] => { results := [.lit (.bool false)], args := [d1, d2] }
  | _ => none }
def FnIsWordOfConcatenationWrongFalsely : Prop := fnIsWordOfConcatenationRow.holds Trym.pinned (OpenSpec.ofChange fnIsWordOfConcatenationWrong)

/-- 'zzlaws_server_b1.FnIsWordAgreesWithByteClass': WHATEVER THE INPUT: true; the input reads as it did. -/
def fnIsWordAgreesWithByteClassSpec : ChangeSpec := { name := "fnIsWordAgreesWithByteClass", fn := fun _ => fun
  | [d] => { results := [.lit (.bool true)], args := [d] }
  | _ => none }
def fnIsWordAgreesWithByteClassRow : OpenClaim := { program := "qxb6001828amods", sum := "d2ee7350377e52a90d4a29dbb289e755688b7409f87f7d0778ea62287864921b", func := "example.com/shapewire/shapewire/zzlaws_server_b1.FnIsWordAgreesWithByteClass", spec := "fnIsWordAgreesWithByteClass", make := .lifted ["publicsums"], apart := false }
def FnIsWordAgreesWithByteClassSaid : Prop := fnIsWordAgreesWithByteClassRow.holds Trym.pinned (OpenSpec.ofChange fnIsWordAgreesWithByteClassSpec)

/-- ITS FALSE NEIGHBOUR: 'it returns false'. Refute it at one input. -/
def fnIsWordAgreesWithByteClassWrong : ChangeSpec := { name := "fnIsWordAgreesWithByteClass", fn := fun _ => fun
  | [d] => { results := [.lit (.bool false)], args := [d] }
  | _ => none }
def FnIsWordAgreesWithByteClassWrongFalsely : Prop := fnIsWordAgreesWithByteClassRow.holds Trym.pinned (OpenSpec.ofChange fnIsWordAgreesWithByteClassWrong)

/-- 'zzlaws_server_b1.FnAllowsAgreesWithTableColumn': WHATEVER THE INPUT: true; the input reads as it did. -/
def fnAllowsAgreesWithTableColumnSpec : ChangeSpec := { name := "fnAllowsAgreesWithTableColumn", fn := fun _ => fun
  | [d1, d2, d3] => { results := [.lit (.bool true)], args := [d1, d2, d3] }
  | _ => none }
def fnAllowsAgreesWithTableColumnRow : OpenClaim := { program := "qxb6001828amods", sum := "d2ee7350377e52a90d4a29dbb289e755688b7409f87f7d0778ea62287864921b", func := "example.com/shapewire/shapewire/zzlaws_server_b1.FnAllowsAgreesWithTableColumn", spec := "fnAllowsAgreesWithTableColumn", make := .lifted ["publicsums"], apart := false }
def FnAllowsAgreesWithTableColumnSaid : Prop := fnAllowsAgreesWithTableColumnRow.holds Trym.pinned (OpenSpec.ofChange fnAllowsAgreesWithTableColumnSpec)

/-- ITS FALSE NEIGHBOUR: 'it returns false'. Refute it at one input. -/
def fnAllowsAgreesWithTableColumnWrong : ChangeSpec := { name := "fnAllowsAgreesWithTableColumn", fn := fun _ => fun
  | [d1, d2, d3] => { results := [.lit (.bool false)], args := [d1, d2, d3] }
  | _ => none }
def FnAllowsAgreesWithTableColumnWrongFalsely : Prop := fnAllowsAgreesWithTableColumnRow.holds Trym.pinned (OpenSpec.ofChange fnAllowsAgreesWithTableColumnWrong)

/-- 'zzlaws_server_b1.FnAllowsGrowsWithAllow': WHATEVER THE INPUT: true; the input reads as it did. -/
def fnAllowsGrowsWithAllowSpec : ChangeSpec := { name := "fnAllowsGrowsWithAllow", fn := fun _ => fun
  | [d1, d2, d3, d4] => { results := [.lit (.bool true)], args := [d1, d2, d3, d4] }
  | _ => none }
def fnAllowsGrowsWithAllowRow : OpenClaim := { program := "qxb6001828amods", sum := "d2ee7350377e52a90d4a29dbb289e755688b7409f87f7d0778ea62287864921b", func := "example.com/shapewire/shapewire/zzlaws_server_b1.FnAllowsGrowsWithAllow", spec := "fnAllowsGrowsWithAllow", make := .lifted ["publicsums"], apart := false }
def FnAllowsGrowsWithAllowSaid : Prop := fnAllowsGrowsWithAllowRow.holds Trym.pinned (OpenSpec.ofChange fnAllowsGrowsWithAllowSpec)

/-- ITS FALSE NEIGHBOUR: 'it returns false'. Refute it at one input. -/
def fnAllowsGrowsWithAllowWrong : ChangeSpec := { name := "fnAllowsGrowsWithAllow", fn := fun _ => fun
  | [d1, d2, d3, d4] => { results := [.lit (.bool false)], args := [d1, d2, d3, d4] }
  | _ => none }
def FnAllowsGrowsWithAllowWrongFalsely : Prop := fnAllowsGrowsWithAllowRow.holds Trym.pinned (OpenSpec.ofChange fnAllowsGrowsWithAllowWrong)

/-- 'zzlaws_server_b1.FnAllowsIgnoresWhichListHoldsTheName': WHATEVER THE INPUT: true; the input reads as it did. -/
def fnAllowsIgnoresWhichListHoldsTheNameSpec : ChangeSpec := { name := "fnAllowsIgnoresWhichListHoldsTheName", fn := fun _ => fun
  | [d1, d2, d3] => { results := [.lit (.bool true)], args := [d1, d2, d3] }
  | _ => none }
def fnAllowsIgnoresWhichListHoldsTheNameRow : OpenClaim := { program := "qxb6001828amods", sum := "d2ee7350377e52a90d4a29dbb289e755688b7409f87f7d0778ea62287864921b", func := "example.com/shapewire/shapewire/zzlaws_server_b1.FnAllowsIgnoresWhichListHoldsTheName", spec := "fnAllowsIgnoresWhichListHoldsTheName", make := .lifted ["publicsums"], apart := false }
def FnAllowsIgnoresWhichListHoldsTheNameSaid : Prop := fnAllowsIgnoresWhichListHoldsTheNameRow.holds Trym.pinned (OpenSpec.ofChange fnAllowsIgnoresWhichListHoldsTheNameSpec)

/-- ITS FALSE NEIGHBOUR: 'it returns false'. Refute it at one input. -/
def fnAllowsIgnoresWhichListHoldsTheNameWrong : ChangeSpec := { name := "fnAllowsIgnoresWhichListHoldsTheName", fn := fun _ => fun
  | [d1, d2, d3] => { results := [.lit (.bool false)], args := [d1, d2, d3] }
  | _ => none }
def FnAllowsIgnoresWhichListHoldsTheNameWrongFalsely : Prop := fnAllowsIgnoresWhichListHoldsTheNameRow.holds Trym.pinned (OpenSpec.ofChange fnAllowsIgnoresWhichListHoldsTheNameWrong)

/-- 'zzlaws_server_b1.FnMustHoldIsMembershipByIdentity': WHATEVER THE INPUT: true; the input reads as it did. -/
def fnMustHoldIsMembershipByIdentitySpec : ChangeSpec := { name := "fnMustHoldIsMembershipByIdentity", fn := fun _ => fun
  | [d1, d2, d3] => { results := [.lit (.bool true)], args := [d1, d2, d3] }
  | _ => none }
def fnMustHoldIsMembershipByIdentityRow : OpenClaim := { program := "qxb6001828amods", sum := "d2ee7350377e52a90d4a29dbb289e755688b7409f87f7d0778ea62287864921b", func := "example.com/shapewire/shapewire/zzlaws_server_b1.FnMustHoldIsMembershipByIdentity", spec := "fnMustHoldIsMembershipByIdentity", make := .lifted ["publicsums"], apart := false }
def FnMustHoldIsMembershipByIdentitySaid : Prop := fnMustHoldIsMembershipByIdentityRow.holds Trym.pinned (OpenSpec.ofChange fnMustHoldIsMembershipByIdentitySpec)

/-- ITS FALSE NEIGHBOUR: 'it returns false'. Refute it at one input. -/
def fnMustHoldIsMembershipByIdentityWrong : ChangeSpec := { name := "fnMustHoldIsMembershipByIdentity", fn := fun _ => fun
  | [d1, d2, d3] => { results := [.lit (.bool false)], args := [d1, d2, d3] }
  | _ => none }
def FnMustHoldIsMembershipByIdentityWrongFalsely : Prop := fnMustHoldIsMembershipByIdentityRow.holds Trym.pinned (OpenSpec.ofChange fnMustHoldIsMembershipByIdentityWrong)

/-- 'zzlaws_server_b1.FnMustHoldImpliesAllowed': WHATEVER THE INPUT: true; the input reads as it did. -/
def fnMustHoldImpliesAllowedSpec : ChangeSpec := { name := "fnMustHoldImpliesAllowed", fn := fun _ => fun
  | [d1, d2, d3] => { results := [.lit (.bool true)], args := [d1, d2, d3] }
  | _ => none }
def fnMustHoldImpliesAllowedRow : OpenClaim := { program := "qxb6001828amods", sum := "d2ee7350377e52a90d4a29dbb289e755688b7409f87f7d0778ea62287864921b", func := "example.com/shapewire/shapewire/zzlaws_server_b1.FnMustHoldImpliesAllowed", spec := "fnMustHoldImpliesAllowed", make := .lifted ["publicsums"], apart := false }
def FnMustHoldImpliesAllowedSaid : Prop := fnMustHoldImpliesAllowedRow.holds Trym.pinned (OpenSpec.ofChange fnMustHoldImpliesAllowedSpec)

/-- ITS FALSE NEIGHBOUR: 'it returns false'. Refute it at one input. -/
def fnMustHoldImpliesAllowedWrong : ChangeSpec := { name := "fnMustHoldImpliesAllowed", fn := fun _ => fun
  | [d1, d2, d3] => { results := [.lit (.bool false)], args := [d1, d2, d3] }
  | _ => none }
def FnMustHoldImpliesAllowedWrongFalsely : Prop := fnMustHoldImpliesAllowedRow.holds Trym.pinned (OpenSpec.ofChange fnMustHoldImpliesAllowedWrong)

end Rows
end Go.Proofs.Qxb6001828aMods
