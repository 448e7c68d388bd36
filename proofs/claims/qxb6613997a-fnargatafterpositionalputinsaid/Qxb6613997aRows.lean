/-
  No cell of these rows narrows 'for every input' (looked for: loops, veiled, ifaces, maps, wideKeys, modest, calm, conditions, laid).
  DERIVED. THE GIVEN ROWS OF THIS SEAT. 5 by the template 'for every input the law returns true; each argument reads behind the call as it read before'; 0 by the template 'total and deterministic' (their statements: Qxb6613997aTotals.lean).
  GIVEN WITH THE SEED: the statements are not yours to turn. If you find one false, say at which input.
  Laid BY PROGRAM, IN A SANDBOX (cutbox-rows.mjs): the forced cells as the released guide's own fill.sh prints them over the translation f69a5506d265dcb8… (all of the seat's roots in one cut). By AI agents, Wed Nov 11 2026. No macro, syntax, notation, axiom, sorry.
-/
import Derived.Test.Qxb6613997aChecked
import GoSem.Claim
import GoSem.ClaimJoined
import GoSem.ClaimMapViews
import Derived.JoinedTies
import Derived.KernelRfl
namespace Go.Proofs.Qxb6613997a
/- THE CELL 'sum', in the pinned program and in every row, IS THE sha256 OF THE DUMP (.gsa) THAT Qxb6613997aProg.lean LOADS. Nothing in Lean hashes anything: it is a label: what it is worth is what the hold of that sum in a sandbox is worth. -/
noncomputable def Try.pinned : Pinned := { name := "qxb6613997a", sum := "f69a5506d265dcb82fa835db47b3d9a62e5176c1de73045b9121a0fa490ec07c", checked := Try.checked }
namespace Rows
def none {H : Type} : Left H := { results := [], args := [] }

/-- 'zzlaws_internal_ir_b1.FnHoldsFlipsWhenUnpackedIsNegated': WHATEVER THE INPUT: true; the input reads as it did. -/
def fnHoldsFlipsWhenUnpackedIsNegatedSpec : ChangeSpec := { name := "fnHoldsFlipsWhenUnpackedIsNegated", fn := fun _ => fun
  | [d1, d2] => { results := [.lit (.bool true)], args := [d1, d2] }
  | _ => none }
def fnHoldsFlipsWhenUnpackedIsNegatedRow : OpenClaim := { program := "qxb6613997a", sum := "f69a5506d265dcb82fa835db47b3d9a62e5176c1de73045b9121a0fa490ec07c", func := "example.com/taintrunnel/taintrunnel/zzlaws_internal_ir_b1.FnHoldsFlipsWhenUnpackedIsNegated", spec := "fnHoldsFlipsWhenUnpackedIsNegated", apart := false }
def FnHoldsFlipsWhenUnpackedIsNegatedSaid : Prop := fnHoldsFlipsWhenUnpackedIsNegatedRow.holds Try.pinned (OpenSpec.ofChange fnHoldsFlipsWhenUnpackedIsNegatedSpec)

/-- ITS FALSE NEIGHBOUR: 'it returns false'. Refute it at one input. -/
def fnHoldsFlipsWhenUnpackedIsNegatedWrong : ChangeSpec := { name := "fnHoldsFlipsWhenUnpackedIsNegated", fn := fun _ => fun
  | [d1, d2] => { results := [.lit (.bool false)], args := [d1, d2] }
  | _ => none }
def FnHoldsFlipsWhenUnpackedIsNegatedWrongFalsely : Prop := fnHoldsFlipsWhenUnpackedIsNegatedRow.holds Try.pinned (OpenSpec.ofChange fnHoldsFlipsWhenUnpackedIsNegatedWrong)

/-- 'zzlaws_internal_ir_b1.FnHoldsOfJoinedUnpackedReadsEachPart': WHATEVER THE INPUT: true; the input reads as it did. -/
def fnHoldsOfJoinedUnpackedReadsEachPartSpec : ChangeSpec := { name := "fnHoldsOfJoinedUnpackedReadsEachPart", fn := fun _ => fun
  | [d1, d2, d3] => { results := [.lit (.bool true)], args := [d1, d2, d3] }
  | _ => none }
def fnHoldsOfJoinedUnpackedReadsEachPartRow : OpenClaim := { program := "qxb6613997a", sum := "f69a5506d265dcb82fa835db47b3d9a62e5176c1de73045b9121a0fa490ec07c", func := "example.com/taintrunnel/taintrunnel/zzlaws_internal_ir_b1.FnHoldsOfJoinedUnpackedReadsEachPart", spec := "fnHoldsOfJoinedUnpackedReadsEachPart", apart := false }
def FnHoldsOfJoinedUnpackedReadsEachPartSaid : Prop := fnHoldsOfJoinedUnpackedReadsEachPartRow.holds Try.pinned (OpenSpec.ofChange fnHoldsOfJoinedUnpackedReadsEachPartSpec)

/-- ITS FALSE NEIGHBOUR: 'it returns false'. Refute it at one input. -/
def fnHoldsOfJoinedUnpackedReadsEachPartWrong : ChangeSpec := { name := "fnHoldsOfJoinedUnpackedReadsEachPart", fn := fun _ => fun
  | [d1, d2, d3] => { results := [.lit (.bool false)], args := [d1, d2, d3] }
  | _ => none }
def FnHoldsOfJoinedUnpackedReadsEachPartWrongFalsely : Prop := fnHoldsOfJoinedUnpackedReadsEachPartRow.holds Try.pinned (OpenSpec.ofChange fnHoldsOfJoinedUnpackedReadsEachPartWrong)

/-- 'zzlaws_internal_ir_b1.FnPositionalAtIsAtThPositionalBeforeFirstSpread': WHATEVER THE INPUT: true; the input reads as it did. -/
def fnPositionalAtIsAtThPositionalBeforeFirstSpreadSpec : ChangeSpec := { name := "fnPositionalAtIsAtThPositionalBeforeFirstSpread", fn := fun _ => fun
  | [d1, d2] => { results := [.lit (.bool true)], args := [d1, d2] }
  | _ => none }
def fnPositionalAtIsAtThPositionalBeforeFirstSpreadRow : OpenClaim := { program := "qxb6613997a", sum := "f69a5506d265dcb82fa835db47b3d9a62e5176c1de73045b9121a0fa490ec07c", func := "example.com/taintrunnel/taintrunnel/zzlaws_internal_ir_b1.FnPositionalAtIsAtThPositionalBeforeFirstSpread", spec := "fnPositionalAtIsAtThPositionalBeforeFirstSpread", apart := false }
def FnPositionalAtIsAtThPositionalBeforeFirstSpreadSaid : Prop := fnPositionalAtIsAtThPositionalBeforeFirstSpreadRow.holds Try.pinned (OpenSpec.ofChange fnPositionalAtIsAtThPositionalBeforeFirstSpreadSpec)

/-- ITS FALSE NEIGHBOUR: 'it returns false'. Refute it at one input. -/
def fnPositionalAtIsAtThPositionalBeforeFirstSpreadWrong : ChangeSpec := { name := "fnPositionalAtIsAtThPositionalBeforeFirstSpread", fn := fun _ => fun
  | [d1, d2] => { results := [.lit (.bool false)], args := [d1, d2] }
  | _ => none }
def FnPositionalAtIsAtThPositionalBeforeFirstSpreadWrongFalsely : Prop := fnPositionalAtIsAtThPositionalBeforeFirstSpreadRow.holds Try.pinned (OpenSpec.ofChange fnPositionalAtIsAtThPositionalBeforeFirstSpreadWrong)

/-- 'zzlaws_internal_ir_b1.FnPositionalAtOfJoinedArgs': WHATEVER THE INPUT: true; the input reads as it did. -/
def fnPositionalAtOfJoinedArgsSpec : ChangeSpec := { name := "fnPositionalAtOfJoinedArgs", fn := fun _ => fun
  | [d1, d2, d3] => { results := [.lit (.bool true)], args := [d1, d2, d3] }
  | _ => none }
def fnPositionalAtOfJoinedArgsRow : OpenClaim := { program := "qxb6613997a", sum := "f69a5506d265dcb82fa835db47b3d9a62e5176c1de73045b9121a0fa490ec07c", func := "example.com/taintrunnel/taintrunnel/zzlaws_internal_ir_b1.FnPositionalAtOfJoinedArgs", spec := "fnPositionalAtOfJoinedArgs", apart := false }
def FnPositionalAtOfJoinedArgsSaid : Prop := fnPositionalAtOfJoinedArgsRow.holds Try.pinned (OpenSpec.ofChange fnPositionalAtOfJoinedArgsSpec)

/-- ITS FALSE NEIGHBOUR: 'it returns false'. Refute it at one input. -/
def fnPositionalAtOfJoinedArgsWrong : ChangeSpec := { name := "fnPositionalAtOfJoinedArgs", fn := fun _ => fun
  | [d1, d2, d3] => { results := [.lit (.bool false)], args := [d1, d2, d3] }
  | _ => none }
def FnPositionalAtOfJoinedArgsWrongFalsely : Prop := fnPositionalAtOfJoinedArgsRow.holds Try.pinned (OpenSpec.ofChange fnPositionalAtOfJoinedArgsWrong)

/-- 'zzlaws_internal_ir_b1.FnArgAtAfterPositionalPutIn': WHATEVER THE INPUT: true; the input reads as it did. -/
def fnArgAtAfterPositionalPutInSpec : ChangeSpec := { name := "fnArgAtAfterPositionalPutIn", fn := fun _ => fun
  | [d1, d2, d3] => { results := [.lit (.bool true)], args := [d1, d2, d3] }
  | _ => none }
def fnArgAtAfterPositionalPutInRow : OpenClaim := { program := "qxb6613997a", sum := "f69a5506d265dcb82fa835db47b3d9a62e5176c1de73045b9121a0fa490ec07c", func := "example.com/taintrunnel/taintrunnel/zzlaws_internal_ir_b1.FnArgAtAfterPositionalPutIn", spec := "fnArgAtAfterPositionalPutIn", apart := false }
def FnArgAtAfterPositionalPutInSaid : Prop := fnArgAtAfterPositionalPutInRow.holds Try.pinned (OpenSpec.ofChange fnArgAtAfterPositionalPutInSpec)

/-- ITS FALSE NEIGHBOUR: 'it returns false'. Refute it at one input. -/
def fnArgAtAfterPositionalPutInWrong : ChangeSpec := { name := "fnArgAtAfterPositionalPutIn", fn := fun _ => fun
  | [d1, d2, d3] => { results := [.lit (.bool false)], args := [d1, d2, d3] }
  | _ => none }
def FnArgAtAfterPositionalPutInWrongFalsely : Prop := fnArgAtAfterPositionalPutInRow.holds Try.pinned (OpenSpec.ofChange fnArgAtAfterPositionalPutInWrong)

end Rows
end Go.Proofs.Qxb6613997a
