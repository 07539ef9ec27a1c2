/-
  No cell of these rows narrows 'for every input' (looked for: loops, veiled, ifaces, maps, wideKeys, modest, calm, conditions, laid).
  DERIVED. THE GIVEN ROWS OF THIS SEAT. 8 by the template 'for every input the law returns true; each argument reads behind the call as it read before'; 0 by the template 'total and deterministic' (their statements: Qxb6602778aTotals.lean).
  GIVEN WITH THE SEED: the statements are not yours to turn. If you find one false, say at which input.
  Laid BY PROGRAM, IN A SANDBOX (cutbox-rows.mjs): the forced cells as the released guide's own fill.sh prints them over the translation d40a381772942ff4… (all of the seat's roots in one cut). By AI agents, Wed Nov 11 2026. No macro, syntax, notation, axiom, sorry.
-/
import Derived.Test.Qxb6602778aChecked
import GoSem.Claim
import GoSem.ClaimJoined
import GoSem.ClaimMapViews
import Derived.JoinedTies
import Derived.KernelRfl
namespace Go.Proofs.Qxb6602778a
/- THE CELL 'sum', in the pinned program and in every row, IS THE sha256 OF THE DUMP (.gsa) THAT Qxb6602778aProg.lean LOADS. Nothing in Lean hashes anything: it is a label: what it is worth is what the hold of that sum in a sandbox is worth. -/
noncomputable def Try.pinned : Pinned := { name := "qxb6602778a", sum := "d40a381772942ff4bd482c56756b1f1918db7e40e562017439c1ce0ba0e61610", checked := Try.checked }
namespace Rows
def none {H : Type} : Left H := { results := [], args := [] }

/-- 'zzlaws_internal_paxos_b1.FnMergeIsTopOfSortedUnion': WHATEVER THE INPUT: true; the input reads as it did. -/
def fnMergeIsTopOfSortedUnionSpec : ChangeSpec := { name := "fnMergeIsTopOfSortedUnion", fn := fun _ => fun
  | [d1, d2, d3] => { results := [.lit (.bool true)], args := [d1, d2, d3] }
  | _ => none }
def fnMergeIsTopOfSortedUnionRow : OpenClaim := { program := "qxb6602778a", sum := "d40a381772942ff4bd482c56756b1f1918db7e40e562017439c1ce0ba0e61610", func := "example.com/manyfold/manyfold/zzlaws_internal_paxos_b1.FnMergeIsTopOfSortedUnion", spec := "fnMergeIsTopOfSortedUnion", apart := false }
def FnMergeIsTopOfSortedUnionSaid : Prop := fnMergeIsTopOfSortedUnionRow.holds Try.pinned (OpenSpec.ofChange fnMergeIsTopOfSortedUnionSpec)

/-- ITS FALSE NEIGHBOUR: 'it returns false'. Refute it at one input. -/
def fnMergeIsTopOfSortedUnionWrong : ChangeSpec := { name := "fnMergeIsTopOfSortedUnion", fn := fun _ => fun
  | [d1, d2, d3] => { results := [.lit (.bool false)], args := [d1, d2, d3] }
  | _ => none }
def FnMergeIsTopOfSortedUnionWrongFalsely : Prop := fnMergeIsTopOfSortedUnionRow.holds Try.pinned (OpenSpec.ofChange fnMergeIsTopOfSortedUnionWrong)

/-- 'zzlaws_internal_paxos_b1.FnMergeOrderFree': WHATEVER THE INPUT: true; the input reads as it did. -/
def fnMergeOrderFreeSpec : ChangeSpec := { name := "fnMergeOrderFree", fn := fun _ => fun
  | [d1, d2, d3, d4] => { results := [.lit (.bool true)], args := [d1, d2, d3, d4] }
  | _ => none }
def fnMergeOrderFreeRow : OpenClaim := { program := "qxb6602778a", sum := "d40a381772942ff4bd482c56756b1f1918db7e40e562017439c1ce0ba0e61610", func := "example.com/manyfold/manyfold/zzlaws_internal_paxos_b1.FnMergeOrderFree", spec := "fnMergeOrderFree", apart := false }
def FnMergeOrderFreeSaid : Prop := fnMergeOrderFreeRow.holds Try.pinned (OpenSpec.ofChange fnMergeOrderFreeSpec)

/-- ITS FALSE NEIGHBOUR: 'it returns false'. Refute it at one input. -/
def fnMergeOrderFreeWrong : ChangeSpec := { name := "fnMergeOrderFree", fn := fun _ => fun
  | [d1, d2, d3, d4] => { results := [.lit (.bool false)], args := [d1, d2, d3, d4] }
  | _ => none }
def FnMergeOrderFreeWrongFalsely : Prop := fnMergeOrderFreeRow.holds Try.pinned (OpenSpec.ofChange fnMergeOrderFreeWrong)

/-- 'zzlaws_internal_paxos_b1.FnMergeWithNoneOrItselfIsTop': WHATEVER THE INPUT: true; the input reads as it did. -/
def fnMergeWithNoneOrItselfIsTopSpec : ChangeSpec := { name := "fnMergeWithNoneOrItselfIsTop", fn := fun _ => fun
  | [d1, d2] => { results := [.lit (.bool true)], args := [d1, d2] }
  | _ => none }
def fnMergeWithNoneOrItselfIsTopRow : OpenClaim := { program := "qxb6602778a", sum := "d40a381772942ff4bd482c56756b1f1918db7e40e562017439c1ce0ba0e61610", func := "example.com/manyfold/manyfold/zzlaws_internal_paxos_b1.FnMergeWithNoneOrItselfIsTop", spec := "fnMergeWithNoneOrItselfIsTop", apart := false }
def FnMergeWithNoneOrItselfIsTopSaid : Prop := fnMergeWithNoneOrItselfIsTopRow.holds Try.pinned (OpenSpec.ofChange fnMergeWithNoneOrItselfIsTopSpec)

/-- ITS FALSE NEIGHBOUR: 'it returns false'. Refute it at one input. -/
def fnMergeWithNoneOrItselfIsTopWrong : ChangeSpec := { name := "fnMergeWithNoneOrItselfIsTop", fn := fun _ => fun
  | [d1, d2] => { results := [.lit (.bool false)], args := [d1, d2] }
  | _ => none }
def FnMergeWithNoneOrItselfIsTopWrongFalsely : Prop := fnMergeWithNoneOrItselfIsTopRow.holds Try.pinned (OpenSpec.ofChange fnMergeWithNoneOrItselfIsTopWrong)

/-- 'zzlaws_internal_paxos_b1.FnEqualIsSameSetOfNumbers': WHATEVER THE INPUT: true; the input reads as it did. -/
def fnEqualIsSameSetOfNumbersSpec : ChangeSpec := { name := "fnEqualIsSameSetOfNumbers", fn := fun _ => fun
  | [d1, d2] => { results := [.lit (.bool true)], args := [d1, d2] }
  | _ => none }
def fnEqualIsSameSetOfNumbersRow : OpenClaim := { program := "qxb6602778a", sum := "d40a381772942ff4bd482c56756b1f1918db7e40e562017439c1ce0ba0e61610", func := "example.com/manyfold/manyfold/zzlaws_internal_paxos_b1.FnEqualIsSameSetOfNumbers", spec := "fnEqualIsSameSetOfNumbers", apart := false }
def FnEqualIsSameSetOfNumbersSaid : Prop := fnEqualIsSameSetOfNumbersRow.holds Try.pinned (OpenSpec.ofChange fnEqualIsSameSetOfNumbersSpec)

/-- ITS FALSE NEIGHBOUR: 'it returns false'. Refute it at one input. -/
def fnEqualIsSameSetOfNumbersWrong : ChangeSpec := { name := "fnEqualIsSameSetOfNumbers", fn := fun _ => fun
  | [d1, d2] => { results := [.lit (.bool false)], args := [d1, d2] }
  | _ => none }
def FnEqualIsSameSetOfNumbersWrongFalsely : Prop := fnEqualIsSameSetOfNumbersRow.holds Try.pinned (OpenSpec.ofChange fnEqualIsSameSetOfNumbersWrong)

/-- 'zzlaws_internal_paxos_b1.FnEqualAgreesWithMergeSize': WHATEVER THE INPUT: true; the input reads as it did. -/
def fnEqualAgreesWithMergeSizeSpec : ChangeSpec := { name := "fnEqualAgreesWithMergeSize", fn := fun _ => fun
  | [d1, d2] => { results := [.lit (.bool true)], args := [d1, d2] }
  | _ => none }
def fnEqualAgreesWithMergeSizeRow : OpenClaim := { program := "qxb6602778a", sum := "d40a381772942ff4bd482c56756b1f1918db7e40e562017439c1ce0ba0e61610", func := "example.com/manyfold/manyfold/zzlaws_internal_paxos_b1.FnEqualAgreesWithMergeSize", spec := "fnEqualAgreesWithMergeSize", apart := false }
def FnEqualAgreesWithMergeSizeSaid : Prop := fnEqualAgreesWithMergeSizeRow.holds Try.pinned (OpenSpec.ofChange fnEqualAgreesWithMergeSizeSpec)

/-- ITS FALSE NEIGHBOUR: 'it returns false'. Refute it at one input. -/
def fnEqualAgreesWithMergeSizeWrong : ChangeSpec := { name := "fnEqualAgreesWithMergeSize", fn := fun _ => fun
  | [d1, d2] => { results := [.lit (.bool false)], args := [d1, d2] }
  | _ => none }
def FnEqualAgreesWithMergeSizeWrongFalsely : Prop := fnEqualAgreesWithMergeSizeRow.holds Try.pinned (OpenSpec.ofChange fnEqualAgreesWithMergeSizeWrong)

/-- 'zzlaws_internal_paxos_b1.FnEqualReflexiveAndSymmetric': WHATEVER THE INPUT: true; the input reads as it did. -/
def fnEqualReflexiveAndSymmetricSpec : ChangeSpec := { name := "fnEqualReflexiveAndSymmetric", fn := fun _ => fun
  | [d1, d2] => { results := [.lit (.bool true)], args := [d1, d2] }
  | _ => none }
def fnEqualReflexiveAndSymmetricRow : OpenClaim := { program := "qxb6602778a", sum := "d40a381772942ff4bd482c56756b1f1918db7e40e562017439c1ce0ba0e61610", func := "example.com/manyfold/manyfold/zzlaws_internal_paxos_b1.FnEqualReflexiveAndSymmetric", spec := "fnEqualReflexiveAndSymmetric", apart := false }
def FnEqualReflexiveAndSymmetricSaid : Prop := fnEqualReflexiveAndSymmetricRow.holds Try.pinned (OpenSpec.ofChange fnEqualReflexiveAndSymmetricSpec)

/-- ITS FALSE NEIGHBOUR: 'it returns false'. Refute it at one input. -/
def fnEqualReflexiveAndSymmetricWrong : ChangeSpec := { name := "fnEqualReflexiveAndSymmetric", fn := fun _ => fun
  | [d1, d2] => { results := [.lit (.bool false)], args := [d1, d2] }
  | _ => none }
def FnEqualReflexiveAndSymmetricWrongFalsely : Prop := fnEqualReflexiveAndSymmetricRow.holds Try.pinned (OpenSpec.ofChange fnEqualReflexiveAndSymmetricWrong)

/-- 'zzlaws_internal_paxos_b1.FnTopKeepsRankBelowM': WHATEVER THE INPUT: true; the input reads as it did. -/
def fnTopKeepsRankBelowMSpec : ChangeSpec := { name := "fnTopKeepsRankBelowM", fn := fun _ => fun
  | [d1, d2] => { results := [.lit (.bool true)], args := [d1, d2] }
  | _ => none }
def fnTopKeepsRankBelowMRow : OpenClaim := { program := "qxb6602778a", sum := "d40a381772942ff4bd482c56756b1f1918db7e40e562017439c1ce0ba0e61610", func := "example.com/manyfold/manyfold/zzlaws_internal_paxos_b1.FnTopKeepsRankBelowM", spec := "fnTopKeepsRankBelowM", apart := false }
def FnTopKeepsRankBelowMSaid : Prop := fnTopKeepsRankBelowMRow.holds Try.pinned (OpenSpec.ofChange fnTopKeepsRankBelowMSpec)

/-- ITS FALSE NEIGHBOUR: 'it returns false'. Refute it at one input. -/
def fnTopKeepsRankBelowMWrong : ChangeSpec := { name := "fnTopKeepsRankBelowM", fn := fun _ => fun
  | [d1, d2] => { results := [.lit (.bool false)], args := [d1, d2] }
  | _ => none }
def FnTopKeepsRankBelowMWrongFalsely : Prop := fnTopKeepsRankBelowMRow.holds Try.pinned (OpenSpec.ofChange fnTopKeepsRankBelowMWrong)

/-- 'zzlaws_internal_paxos_b1.FnTopComposes': WHATEVER THE INPUT: true; the input reads as it did. -/
def fnTopComposesSpec : ChangeSpec := { name := "fnTopComposes", fn := fun _ => fun
  | [d1, d2, d3] => { results := [.lit (.bool true)], args := [d1, d2, d3] }
  | _ => none }
def fnTopComposesRow : OpenClaim := { program := "qxb6602778a", sum := "d40a381772942ff4bd482c56756b1f1918db7e40e562017439c1ce0ba0e61610", func := "example.com/manyfold/manyfold/zzlaws_internal_paxos_b1.FnTopComposes", spec := "fnTopComposes", apart := false }
def FnTopComposesSaid : Prop := fnTopComposesRow.holds Try.pinned (OpenSpec.ofChange fnTopComposesSpec)

/-- ITS FALSE NEIGHBOUR: 'it returns false'. Refute it at one input. -/
def fnTopComposesWrong : ChangeSpec := { name := "fnTopComposes", fn := fun _ => fun
  | [d1, d2, d3] => { results := [.lit (.bool false)], args := [d1, d2, d3] }
  | _ => none }
def FnTopComposesWrongFalsely : Prop := fnTopComposesRow.holds Try.pinned (OpenSpec.ofChange fnTopComposesWrong)

end Rows
end Go.Proofs.Qxb6602778a
