/-
  No cell of these rows narrows 'for every input' (looked for: loops, veiled, ifaces, maps, wideKeys, modest, calm, conditions, laid).
  DERIVED. THE GIVEN ROWS OF THIS SEAT. 6 by the template 'for every input the law returns true; each argument reads behind the call as it read before'; 0 by the template 'total and deterministic' (their statements: Qxb6614059aTotals.lean).
  GIVEN WITH THE SEED: the statements are not yours to turn. If you find one false, say at which input.
  Laid BY PROGRAM, IN A SANDBOX (cutbox-rows.mjs): the forced cells as the released guide's own fill.sh prints them over the translation 74a9bb672971bb07… (all of the seat's roots in one cut). By AI agents, Wed Nov 11 2026. No macro, syntax, notation, axiom, sorry.
-/
import Derived.Test.Qxb6614059aChecked
import GoSem.Claim
import GoSem.ClaimJoined
import GoSem.ClaimMapViews
import Derived.JoinedTies
import Derived.KernelRfl
namespace Go.Proofs.Qxb6614059a
/- THE CELL 'sum', in the pinned program and in every row, IS THE sha256 OF THE DUMP (.gsa) THAT Qxb6614059aProg.lean LOADS. Nothing in Lean hashes anything: it is a label: what it is worth is what the hold of that sum in a sandbox is worth. -/
noncomputable def Try.pinned : Pinned := { name := "qxb6614059a", sum := "74a9bb672971bb07a8072e4b7c38f20e942a63bed1184147084918350cc5c62a", checked := Try.checked }
namespace Rows
def none {H : Type} : Left H := { results := [], args := [] }

/-- 'zzlaws_policy_b1.FnFoldCharacterisation': WHATEVER THE INPUT: true; the input reads as it did. -/
def fnFoldCharacterisationSpec : ChangeSpec := { name := "fnFoldCharacterisation", fn := fun _ => fun
  | [d1, d2] => { results := [.lit (.bool true)], args := [d1, d2] }
  | _ => none }
def fnFoldCharacterisationRow : OpenClaim := { program := "qxb6614059a", sum := "74a9bb672971bb07a8072e4b7c38f20e942a63bed1184147084918350cc5c62a", func := "example.com/rules-to-rulings/rules-to-rulings/zzlaws_policy_b1.FnFoldCharacterisation", spec := "fnFoldCharacterisation", apart := false }
def FnFoldCharacterisationSaid : Prop := fnFoldCharacterisationRow.holds Try.pinned (OpenSpec.ofChange fnFoldCharacterisationSpec)

/-- ITS FALSE NEIGHBOUR: 'it returns false'. Refute it at one input. -/
def fnFoldCharacterisationWrong : ChangeSpec := { name := "fnFoldCharacterisation", fn := fun _ => fun
  | [d1, d2] => { results := [.lit (.bool false)], args := [d1, d2] }
  | _ => none }
def FnFoldCharacterisationWrongFalsely : Prop := fnFoldCharacterisationRow.holds Try.pinned (OpenSpec.ofChange fnFoldCharacterisationWrong)

/-- 'zzlaws_policy_b1.FnFoldCollisionsExact': WHATEVER THE INPUT: true; the input reads as it did. -/
def fnFoldCollisionsExactSpec : ChangeSpec := { name := "fnFoldCollisionsExact", fn := fun _ => fun
  | [d1, d2] => { results := [.lit (.bool true)], args := [d1, d2] }
  | _ => none }
def fnFoldCollisionsExactRow : OpenClaim := { program := "qxb6614059a", sum := "74a9bb672971bb07a8072e4b7c38f20e942a63bed1184147084918350cc5c62a", func := "example.com/rules-to-rulings/rules-to-rulings/zzlaws_policy_b1.FnFoldCollisionsExact", spec := "fnFoldCollisionsExact", apart := false }
def FnFoldCollisionsExactSaid : Prop := fnFoldCollisionsExactRow.holds Try.pinned (OpenSpec.ofChange fnFoldCollisionsExactSpec)

/-- ITS FALSE NEIGHBOUR: 'it returns false'. Refute it at one input. -/
def fnFoldCollisionsExactWrong : ChangeSpec := { name := "fnFoldCollisionsExact", fn := fun _ => fun
  | [d1, d2] => { results := [.lit (.bool false)], args := [d1, d2] }
  | _ => none }
def FnFoldCollisionsExactWrongFalsely : Prop := fnFoldCollisionsExactRow.holds Try.pinned (OpenSpec.ofChange fnFoldCollisionsExactWrong)

/-- 'zzlaws_policy_b1.FnKeyOfNestingKeepsKey': WHATEVER THE INPUT: true; the input reads as it did. -/
def fnKeyOfNestingKeepsKeySpec : ChangeSpec := { name := "fnKeyOfNestingKeepsKey", fn := fun _ => fun
  | [d1, d2, d3, d4] => { results := [.lit (.bool true)], args := [d1, d2, d3, d4] }
  | _ => none }
def fnKeyOfNestingKeepsKeyRow : OpenClaim := { program := "qxb6614059a", sum := "74a9bb672971bb07a8072e4b7c38f20e942a63bed1184147084918350cc5c62a", func := "example.com/rules-to-rulings/rules-to-rulings/zzlaws_policy_b1.FnKeyOfNestingKeepsKey", spec := "fnKeyOfNestingKeepsKey", apart := false }
def FnKeyOfNestingKeepsKeySaid : Prop := fnKeyOfNestingKeepsKeyRow.holds Try.pinned (OpenSpec.ofChange fnKeyOfNestingKeepsKeySpec)

/-- ITS FALSE NEIGHBOUR: 'it returns false'. Refute it at one input. -/
def fnKeyOfNestingKeepsKeyWrong : ChangeSpec := { name := "fnKeyOfNestingKeepsKey", fn := fun _ => fun
  | [d1, d2, d3, d4] => { results := [.lit (.bool false)], args := [d1, d2, d3, d4] }
  | _ => none }
def FnKeyOfNestingKeepsKeyWrongFalsely : Prop := fnKeyOfNestingKeepsKeyRow.holds Try.pinned (OpenSpec.ofChange fnKeyOfNestingKeepsKeyWrong)

/-- 'zzlaws_policy_b1.FnKeyOfSeparates': WHATEVER THE INPUT: true; the input reads as it did. -/
def fnKeyOfSeparatesSpec : ChangeSpec := { name := "fnKeyOfSeparates", fn := fun _ => fun
  | [d1, d2, d3, d4, d5, d6, d7] => { results := [.lit (.bool true)], args := [d1, d2, d3, d4, d5, d6, d7] }
  | _ => none }
def fnKeyOfSeparatesRow : OpenClaim := { program := "qxb6614059a", sum := "74a9bb672971bb07a8072e4b7c38f20e942a63bed1184147084918350cc5c62a", func := "example.com/rules-to-rulings/rules-to-rulings/zzlaws_policy_b1.FnKeyOfSeparates", spec := "fnKeyOfSeparates", apart := false }
def FnKeyOfSeparatesSaid : Prop := fnKeyOfSeparatesRow.holds Try.pinned (OpenSpec.ofChange fnKeyOfSeparatesSpec)

/-- ITS FALSE NEIGHBOUR: 'it returns false'. Refute it at one input. -/
def fnKeyOfSeparatesWrong : ChangeSpec := { name := "fnKeyOfSeparates", fn := fun _ => fun
  | [d1, d2, d3, d4, d5, d6, d7] => { results := [.lit (.bool false)], args := [d1, d2, d3, d4, d5, d6, d7] }
  | _ => none }
def FnKeyOfSeparatesWrongFalsely : Prop := fnKeyOfSeparatesRow.holds Try.pinned (OpenSpec.ofChange fnKeyOfSeparatesWrong)

/-- 'zzlaws_policy_b1.FnFirstsNumberFirstSeenOrder': WHATEVER THE INPUT: true; the input reads as it did. -/
def fnFirstsNumberFirstSeenOrderSpec : ChangeSpec := { name := "fnFirstsNumberFirstSeenOrder", fn := fun _ => fun
  | [d] => { results := [.lit (.bool true)], args := [d] }
  | _ => none }
def fnFirstsNumberFirstSeenOrderRow : OpenClaim := { program := "qxb6614059a", sum := "74a9bb672971bb07a8072e4b7c38f20e942a63bed1184147084918350cc5c62a", func := "example.com/rules-to-rulings/rules-to-rulings/zzlaws_policy_b1.FnFirstsNumberFirstSeenOrder", spec := "fnFirstsNumberFirstSeenOrder", apart := false }
def FnFirstsNumberFirstSeenOrderSaid : Prop := fnFirstsNumberFirstSeenOrderRow.holds Try.pinned (OpenSpec.ofChange fnFirstsNumberFirstSeenOrderSpec)

/-- ITS FALSE NEIGHBOUR: 'it returns false'. Refute it at one input. -/
def fnFirstsNumberFirstSeenOrderWrong : ChangeSpec := { name := "fnFirstsNumberFirstSeenOrder", fn := fun _ => fun
  | [d] => { results := [.lit (.bool false)], args := [d] }
  | _ => none }
def FnFirstsNumberFirstSeenOrderWrongFalsely : Prop := fnFirstsNumberFirstSeenOrderRow.holds Try.pinned (OpenSpec.ofChange fnFirstsNumberFirstSeenOrderWrong)

/-- 'zzlaws_policy_b1.FnFirstsNumberStable': WHATEVER THE INPUT: true; the input reads as it did. -/
def fnFirstsNumberStableSpec : ChangeSpec := { name := "fnFirstsNumberStable", fn := fun _ => fun
  | [d1, d2] => { results := [.lit (.bool true)], args := [d1, d2] }
  | _ => none }
def fnFirstsNumberStableRow : OpenClaim := { program := "qxb6614059a", sum := "74a9bb672971bb07a8072e4b7c38f20e942a63bed1184147084918350cc5c62a", func := "example.com/rules-to-rulings/rules-to-rulings/zzlaws_policy_b1.FnFirstsNumberStable", spec := "fnFirstsNumberStable", apart := false }
def FnFirstsNumberStableSaid : Prop := fnFirstsNumberStableRow.holds Try.pinned (OpenSpec.ofChange fnFirstsNumberStableSpec)

/-- ITS FALSE NEIGHBOUR: 'it returns false'. Refute it at one input. -/
def fnFirstsNumberStableWrong : ChangeSpec := { name := "fnFirstsNumberStable", fn := fun _ => fun
  | [d1, d2] => { results := [.lit (.bool false)], args := [d1, d2] }
  | _ => none }
def FnFirstsNumberStableWrongFalsely : Prop := fnFirstsNumberStableRow.holds Try.pinned (OpenSpec.ofChange fnFirstsNumberStableWrong)

end Rows
end Go.Proofs.Qxb6614059a
