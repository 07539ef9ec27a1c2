/-
  No cell of these rows narrows 'for every input' (looked for: loops, veiled, ifaces, maps, wideKeys, modest, calm, conditions, laid).
  DERIVED. THE GIVEN ROWS OF THIS SEAT. 3 by the template 'for every input the law returns true; each argument reads behind the call as it read before'; 0 by the template 'total and deterministic' (their statements: Qxb6603131aTotals.lean).
  GIVEN WITH THE SEED: the statements are not yours to turn. If you find one false, say at which input.
  Laid BY PROGRAM, IN A SANDBOX (cutbox-rows.mjs): the forced cells as the released guide's own fill.sh prints them over the translation e1c8ab8276ee1943… (all of the seat's roots in one cut). By AI agents, Wed Nov 11 2026. No macro, syntax, notation, axiom, sorry.
-/
import Derived.Test.Qxb6603131aChecked
import GoSem.Claim
import GoSem.ClaimJoined
import GoSem.ClaimMapViews
import Derived.JoinedTies
import Derived.KernelRfl
namespace Go.Proofs.Qxb6603131a
/- THE CELL 'sum', in the pinned program and in every row, IS THE sha256 OF THE DUMP (.gsa) THAT Qxb6603131aProg.lean LOADS. Nothing in Lean hashes anything: it is a label: what it is worth is what the hold of that sum in a sandbox is worth. -/
noncomputable def Try.pinned : Pinned := { name := "qxb6603131a", sum := "e1c8ab8276ee1943c340b5ebba0ccf68c057f07c32cb8714e0e31c483ac5333c", checked := Try.checked }
namespace Rows
def none {H : Type} : Left H := { results := [], args := [] }

/-- 'zzlaws_internal_chunks_b1.FnShrinkToLargestQuarterFilledHalving': WHATEVER THE INPUT: true; the input reads as it did. -/
def fnShrinkToLargestQuarterFilledHalvingSpec : ChangeSpec := { name := "fnShrinkToLargestQuarterFilledHalving", fn := fun _ => fun
  | [d1, d2, d3, d4, d5, d6, d7] => { results := [.lit (.bool true)], args := [d1, d2, d3, d4, d5, d6, d7] }
  | _ => none }
def fnShrinkToLargestQuarterFilledHalvingRow : OpenClaim := { program := "qxb6603131a", sum := "e1c8ab8276ee1943c340b5ebba0ccf68c057f07c32cb8714e0e31c483ac5333c", func := "example.com/laneway/laneway/zzlaws_internal_chunks_b1.FnShrinkToLargestQuarterFilledHalving", spec := "fnShrinkToLargestQuarterFilledHalving", apart := false }
def FnShrinkToLargestQuarterFilledHalvingSaid : Prop := fnShrinkToLargestQuarterFilledHalvingRow.holds Try.pinned (OpenSpec.ofChange fnShrinkToLargestQuarterFilledHalvingSpec)

/-- ITS FALSE NEIGHBOUR: 'it returns false'. Refute it at one input. -/
def fnShrinkToLargestQuarterFilledHalvingWrong : ChangeSpec := { name := "fnShrinkToLargestQuarterFilledHalving", fn := fun _ => fun
  | [d1, d2, d3, d4, d5, d6, d7] => { results := [.lit (.bool false)], args := [d1, d2, d3, d4, d5, d6, d7] }
  | _ => none }
def FnShrinkToLargestQuarterFilledHalvingWrongFalsely : Prop := fnShrinkToLargestQuarterFilledHalvingRow.holds Try.pinned (OpenSpec.ofChange fnShrinkToLargestQuarterFilledHalvingWrong)

/-- 'zzlaws_internal_chunks_b1.FnShrinkToHalfFullAndSettled': WHATEVER THE INPUT: true; the input reads as it did. -/
def fnShrinkToHalfFullAndSettledSpec : ChangeSpec := { name := "fnShrinkToHalfFullAndSettled", fn := fun _ => fun
  | [d1, d2, d3, d4, d5, d6, d7] => { results := [.lit (.bool true)], args := [d1, d2, d3, d4, d5, d6, d7] }
  | _ => none }
def fnShrinkToHalfFullAndSettledRow : OpenClaim := { program := "qxb6603131a", sum := "e1c8ab8276ee1943c340b5ebba0ccf68c057f07c32cb8714e0e31c483ac5333c", func := "example.com/laneway/laneway/zzlaws_internal_chunks_b1.FnShrinkToHalfFullAndSettled", spec := "fnShrinkToHalfFullAndSettled", apart := false }
def FnShrinkToHalfFullAndSettledSaid : Prop := fnShrinkToHalfFullAndSettledRow.holds Try.pinned (OpenSpec.ofChange fnShrinkToHalfFullAndSettledSpec)

/-- ITS FALSE NEIGHBOUR: 'it returns false'. Refute it at one input. -/
def fnShrinkToHalfFullAndSettledWrong : ChangeSpec := { name := "fnShrinkToHalfFullAndSettled", fn := fun _ => fun
  | [d1, d2, d3, d4, d5, d6, d7] => { results := [.lit (.bool false)], args := [d1, d2, d3, d4, d5, d6, d7] }
  | _ => none }
def FnShrinkToHalfFullAndSettledWrongFalsely : Prop := fnShrinkToHalfFullAndSettledRow.holds Try.pinned (OpenSpec.ofChange fnShrinkToHalfFullAndSettledWrong)

/-- 'zzlaws_internal_chunks_b1.FnShrinkToMonotoneInValues': WHATEVER THE INPUT: true; the input reads as it did. -/
def fnShrinkToMonotoneInValuesSpec : ChangeSpec := { name := "fnShrinkToMonotoneInValues", fn := fun _ => fun
  | [d1, d2, d3, d4, d5, d6, d7, d8] => { results := [.lit (.bool true)], args := [d1, d2, d3, d4, d5, d6, d7, d8] }
  | _ => none }
def fnShrinkToMonotoneInValuesRow : OpenClaim := { program := "qxb6603131a", sum := "e1c8ab8276ee1943c340b5ebba0ccf68c057f07c32cb8714e0e31c483ac5333c", func := "example.com/laneway/laneway/zzlaws_internal_chunks_b1.FnShrinkToMonotoneInValues", spec := "fnShrinkToMonotoneInValues", apart := false }
def FnShrinkToMonotoneInValuesSaid : Prop := fnShrinkToMonotoneInValuesRow.holds Try.pinned (OpenSpec.ofChange fnShrinkToMonotoneInValuesSpec)

/-- ITS FALSE NEIGHBOUR: 'it returns false'. Refute it at one input. -/
def fnShrinkToMonotoneInValuesWrong : ChangeSpec := { name := "fnShrinkToMonotoneInValues", fn := fun _ => fun
  | [d1, d2, d3, d4, d5, d6, d7, d8] => { results := [.lit (.bool false)], args := [d1, d2, d3, d4, d5, d6, d7, d8] }
  | _ => none }
def FnShrinkToMonotoneInValuesWrongFalsely : Prop := fnShrinkToMonotoneInValuesRow.holds Try.pinned (OpenSpec.ofChange fnShrinkToMonotoneInValuesWrong)

end Rows
end Go.Proofs.Qxb6603131a
