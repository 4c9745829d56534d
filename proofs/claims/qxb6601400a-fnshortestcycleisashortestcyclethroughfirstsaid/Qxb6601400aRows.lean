/-
  No cell of these rows narrows 'for every input' (looked for: loops, veiled, ifaces, maps, wideKeys, modest, calm, conditions, laid).
  DERIVED. THE GIVEN ROWS OF THIS SEAT. 4 by the template 'for every input the law returns true; each argument reads behind the call as it read before'; 0 by the template 'total and deterministic' (their statements: Qxb6601400aTotals.lean).
  GIVEN WITH THE SEED: the statements are not yours to turn. If you find one false, say at which input.
  Laid BY PROGRAM, IN A SANDBOX (cutbox-rows.mjs): the forced cells as the released guide's own fill.sh prints them over the translation 61c64bbd4a91b769… (all of the seat's roots in one cut). By AI agents, Wed Nov 11 2026. No macro, syntax, notation, axiom, sorry.
-/
import Derived.Test.Qxb6601400aChecked
import GoSem.Claim
import GoSem.ClaimJoined
import GoSem.ClaimMapViews
import Derived.JoinedTies
import Derived.KernelRfl
namespace Go.Proofs.Qxb6601400a
/- THE CELL 'sum', in the pinned program and in every row, IS THE sha256 OF THE DUMP (.gsa) THAT Qxb6601400aProg.lean LOADS. Nothing in Lean hashes anything: it is a label: what it is worth is what the hold of that sum in a sandbox is worth. -/
noncomputable def Try.pinned : Pinned := { name := "qxb6601400a", sum := "61c64bbd4a91b769bcbe913d42ad88bdcc7328f9192a9f2a9a55e3d123e87207", checked := Try.checked }
namespace Rows
def none {H : Type} : Left H := { results := [], args := [] }

/-- 'zzlaws_root_b1.FnNewMinTreeHoldsLeastOfEachRun': WHATEVER THE INPUT: true; the input reads as it did. -/
def fnNewMinTreeHoldsLeastOfEachRunSpec : ChangeSpec := { name := "fnNewMinTreeHoldsLeastOfEachRun", fn := fun _ => fun
  | [d] => { results := [.lit (.bool true)], args := [d] }
  | _ => none }
def fnNewMinTreeHoldsLeastOfEachRunRow : OpenClaim := { program := "qxb6601400a", sum := "61c64bbd4a91b769bcbe913d42ad88bdcc7328f9192a9f2a9a55e3d123e87207", func := "example.com/notchwork/notchwork/zzlaws_root_b1.FnNewMinTreeHoldsLeastOfEachRun", spec := "fnNewMinTreeHoldsLeastOfEachRun", apart := false }
def FnNewMinTreeHoldsLeastOfEachRunSaid : Prop := fnNewMinTreeHoldsLeastOfEachRunRow.holds Try.pinned (OpenSpec.ofChange fnNewMinTreeHoldsLeastOfEachRunSpec)

/-- ITS FALSE NEIGHBOUR: 'it returns false'. Refute it at one input. -/
def fnNewMinTreeHoldsLeastOfEachRunWrong : ChangeSpec := { name := "fnNewMinTreeHoldsLeastOfEachRun", fn := fun _ => fun
  | [d] => { results := [.lit (.bool false)], args := [d] }
  | _ => none }
def FnNewMinTreeHoldsLeastOfEachRunWrongFalsely : Prop := fnNewMinTreeHoldsLeastOfEachRunRow.holds Try.pinned (OpenSpec.ofChange fnNewMinTreeHoldsLeastOfEachRunWrong)

/-- 'zzlaws_root_b1.FnMinTreeSearchFindsFirstBelowInItsNodesRun': WHATEVER THE INPUT: true; the input reads as it did. -/
def fnMinTreeSearchFindsFirstBelowInItsNodesRunSpec : ChangeSpec := { name := "fnMinTreeSearchFindsFirstBelowInItsNodesRun", fn := fun _ => fun
  | [d1, d2, d3, d4, d5] => { results := [.lit (.bool true)], args := [d1, d2, d3, d4, d5] }
  | _ => none }
def fnMinTreeSearchFindsFirstBelowInItsNodesRunRow : OpenClaim := { program := "qxb6601400a", sum := "61c64bbd4a91b769bcbe913d42ad88bdcc7328f9192a9f2a9a55e3d123e87207", func := "example.com/notchwork/notchwork/zzlaws_root_b1.FnMinTreeSearchFindsFirstBelowInItsNodesRun", spec := "fnMinTreeSearchFindsFirstBelowInItsNodesRun", recurses := true, apart := false }
def FnMinTreeSearchFindsFirstBelowInItsNodesRunSaid : Prop := fnMinTreeSearchFindsFirstBelowInItsNodesRunRow.holds Try.pinned (OpenSpec.ofChange fnMinTreeSearchFindsFirstBelowInItsNodesRunSpec)

/-- ITS FALSE NEIGHBOUR: 'it returns false'. Refute it at one input. -/
def fnMinTreeSearchFindsFirstBelowInItsNodesRunWrong : ChangeSpec := { name := "fnMinTreeSearchFindsFirstBelowInItsNodesRun", fn := fun _ => fun
  | [d1, d2, d3, d4, d5] => { results := [.lit (.bool false)], args := [d1, d2, d3, d4, d5] }
  | _ => none }
def FnMinTreeSearchFindsFirstBelowInItsNodesRunWrongFalsely : Prop := fnMinTreeSearchFindsFirstBelowInItsNodesRunRow.holds Try.pinned (OpenSpec.ofChange fnMinTreeSearchFindsFirstBelowInItsNodesRunWrong)

/-- 'zzlaws_root_b1.FnShortestCycleIsAShortestCycleThroughFirst': WHATEVER THE INPUT: true; the input reads as it did. -/
def fnShortestCycleIsAShortestCycleThroughFirstSpec : ChangeSpec := { name := "fnShortestCycleIsAShortestCycleThroughFirst", fn := fun _ => fun
  | [d1, d2] => { results := [.lit (.bool true)], args := [d1, d2] }
  | _ => none }
def fnShortestCycleIsAShortestCycleThroughFirstRow : OpenClaim := { program := "qxb6601400a", sum := "61c64bbd4a91b769bcbe913d42ad88bdcc7328f9192a9f2a9a55e3d123e87207", func := "example.com/notchwork/notchwork/zzlaws_root_b1.FnShortestCycleIsAShortestCycleThroughFirst", spec := "fnShortestCycleIsAShortestCycleThroughFirst", apart := false }
def FnShortestCycleIsAShortestCycleThroughFirstSaid : Prop := fnShortestCycleIsAShortestCycleThroughFirstRow.holds Try.pinned (OpenSpec.ofChange fnShortestCycleIsAShortestCycleThroughFirstSpec)

/-- ITS FALSE NEIGHBOUR: 'it returns false'. Refute it at one input. -/
def fnShortestCycleIsAShortestCycleThroughFirstWrong : ChangeSpec := { name := "fnShortestCycleIsAShortestCycleThroughFirst", fn := fun _ => fun
  | [d1, d2] => { results := [.lit (.bool false)], args := [d1, d2] }
  | _ => none }
def FnShortestCycleIsAShortestCycleThroughFirstWrongFalsely : Prop := fnShortestCycleIsAShortestCycleThroughFirstRow.holds Try.pinned (OpenSpec.ofChange fnShortestCycleIsAShortestCycleThroughFirstWrong)

/-- 'zzlaws_root_b1.FnShortestCycleIgnoresPartsOutsideGroup': WHATEVER THE INPUT: true; the input reads as it did. -/
def fnShortestCycleIgnoresPartsOutsideGroupSpec : ChangeSpec := { name := "fnShortestCycleIgnoresPartsOutsideGroup", fn := fun _ => fun
  | [d1, d2] => { results := [.lit (.bool true)], args := [d1, d2] }
  | _ => none }
def fnShortestCycleIgnoresPartsOutsideGroupRow : OpenClaim := { program := "qxb6601400a", sum := "61c64bbd4a91b769bcbe913d42ad88bdcc7328f9192a9f2a9a55e3d123e87207", func := "example.com/notchwork/notchwork/zzlaws_root_b1.FnShortestCycleIgnoresPartsOutsideGroup", spec := "fnShortestCycleIgnoresPartsOutsideGroup", apart := false }
def FnShortestCycleIgnoresPartsOutsideGroupSaid : Prop := fnShortestCycleIgnoresPartsOutsideGroupRow.holds Try.pinned (OpenSpec.ofChange fnShortestCycleIgnoresPartsOutsideGroupSpec)

/-- ITS FALSE NEIGHBOUR: 'it returns false'. Refute it at one input. -/
def fnShortestCycleIgnoresPartsOutsideGroupWrong : ChangeSpec := { name := "fnShortestCycleIgnoresPartsOutsideGroup", fn := fun _ => fun
  | [d1, d2] => { results := [.lit (.bool false)], args := [d1, d2] }
  | _ => none }
def FnShortestCycleIgnoresPartsOutsideGroupWrongFalsely : Prop := fnShortestCycleIgnoresPartsOutsideGroupRow.holds Try.pinned (OpenSpec.ofChange fnShortestCycleIgnoresPartsOutsideGroupWrong)

end Rows
end Go.Proofs.Qxb6601400a
