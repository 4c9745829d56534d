/-
  No cell of these rows narrows 'for every input' (looked for: loops, veiled, ifaces, maps, wideKeys, modest, calm, conditions, laid).
  DERIVED. THE GIVEN ROWS OF THIS SEAT. 4 by the template 'for every input the law returns true; each argument reads behind the call as it read before'; 0 by the template 'total and deterministic' (their statements: Qxb6601627aTotals.lean).
  GIVEN WITH THE SEED: the statements are not yours to turn. If you find one false, say at which input.
  Laid BY PROGRAM, IN A SANDBOX (cutbox-rows.mjs): the forced cells as the released guide's own fill.sh prints them over the translation 0a7d378d3bb87fa6… (all of the seat's roots in one cut). By AI agents, Wed Nov 11 2026. No macro, syntax, notation, axiom, sorry.
-/
import Derived.Test.Qxb6601627aChecked
import GoSem.Claim
import GoSem.ClaimJoined
import GoSem.ClaimMapViews
import Derived.JoinedTies
import Derived.KernelRfl
namespace Go.Proofs.Qxb6601627a
/- THE CELL 'sum', in the pinned program and in every row, IS THE sha256 OF THE DUMP (.gsa) THAT Qxb6601627aProg.lean LOADS. Nothing in Lean hashes anything: it is a label: what it is worth is what the hold of that sum in a sandbox is worth. -/
noncomputable def Try.pinned : Pinned := { name := "qxb6601627a", sum := "0a7d378d3bb87fa6a86d0e30233bf68426289a51d52dfcb3714fd9782cc42dbc", checked := Try.checked }
namespace Rows
def none {H : Type} : Left H := { results := [], args := [] }

/-- 'zzlaws_iphdr_b1.FnSumBytewiseModel': WHATEVER THE INPUT: true; the input reads as it did. -/
def fnSumBytewiseModelSpec : ChangeSpec := { name := "fnSumBytewiseModel", fn := fun _ => fun
  | [d1, d2] => { results := [.lit (.bool true)], args := [d1, d2] }
  | _ => none }
def fnSumBytewiseModelRow : OpenClaim := { program := "qxb6601627a", sum := "0a7d378d3bb87fa6a86d0e30233bf68426289a51d52dfcb3714fd9782cc42dbc", func := "example.com/pacewire/pacewire/zzlaws_iphdr_b1.FnSumBytewiseModel", spec := "fnSumBytewiseModel", apart := false }
def FnSumBytewiseModelSaid : Prop := fnSumBytewiseModelRow.holds Try.pinned (OpenSpec.ofChange fnSumBytewiseModelSpec)

/-- ITS FALSE NEIGHBOUR: 'it returns false'. Refute it at one input. -/
def fnSumBytewiseModelWrong : ChangeSpec := { name := "fnSumBytewiseModel", fn := fun _ => fun
  | [d1, d2] => { results := [.lit (.bool false)], args := [d1, d2] }
  | _ => none }
def FnSumBytewiseModelWrongFalsely : Prop := fnSumBytewiseModelRow.holds Try.pinned (OpenSpec.ofChange fnSumBytewiseModelWrong)

/-- 'zzlaws_iphdr_b1.FnSumSplitAnywhere': WHATEVER THE INPUT: true; the input reads as it did. -/
def fnSumSplitAnywhereSpec : ChangeSpec := { name := "fnSumSplitAnywhere", fn := fun _ => fun
  | [d1, d2, d3] => { results := [.lit (.bool true)], args := [d1, d2, d3] }
  | _ => none }
def fnSumSplitAnywhereRow : OpenClaim := { program := "qxb6601627a", sum := "0a7d378d3bb87fa6a86d0e30233bf68426289a51d52dfcb3714fd9782cc42dbc", func := "example.com/pacewire/pacewire/zzlaws_iphdr_b1.FnSumSplitAnywhere", spec := "fnSumSplitAnywhere", apart := false }
def FnSumSplitAnywhereSaid : Prop := fnSumSplitAnywhereRow.holds Try.pinned (OpenSpec.ofChange fnSumSplitAnywhereSpec)

/-- ITS FALSE NEIGHBOUR: 'it returns false'. Refute it at one input. -/
def fnSumSplitAnywhereWrong : ChangeSpec := { name := "fnSumSplitAnywhere", fn := fun _ => fun
  | [d1, d2, d3] => { results := [.lit (.bool false)], args := [d1, d2, d3] }
  | _ => none }
def FnSumSplitAnywhereWrongFalsely : Prop := fnSumSplitAnywhereRow.holds Try.pinned (OpenSpec.ofChange fnSumSplitAnywhereWrong)

/-- 'zzlaws_iphdr_b1.FnChecksumClosedForm': WHATEVER THE INPUT: true; the input reads as it did. -/
def fnChecksumClosedFormSpec : ChangeSpec := { name := "fnChecksumClosedForm", fn := fun _ => fun
  | [d] => { results := [.lit (.bool true)], args := [d] }
  | _ => none }
def fnChecksumClosedFormRow : OpenClaim := { program := "qxb6601627a", sum := "0a7d378d3bb87fa6a86d0e30233bf68426289a51d52dfcb3714fd9782cc42dbc", func := "example.com/pacewire/pacewire/zzlaws_iphdr_b1.FnChecksumClosedForm", spec := "fnChecksumClosedForm", apart := false }
def FnChecksumClosedFormSaid : Prop := fnChecksumClosedFormRow.holds Try.pinned (OpenSpec.ofChange fnChecksumClosedFormSpec)

/-- ITS FALSE NEIGHBOUR: 'it returns false'. Refute it at one input. -/
def fnChecksumClosedFormWrong : ChangeSpec := { name := "fnChecksumClosedForm", fn := fun _ => fun
  | [d] => { results := [.lit (.bool false)], args := [d] }
  | _ => none }
def FnChecksumClosedFormWrongFalsely : Prop := fnChecksumClosedFormRow.holds Try.pinned (OpenSpec.ofChange fnChecksumClosedFormWrong)

/-- 'zzlaws_iphdr_b1.FnChecksumOfCheckedDataIsZero': WHATEVER THE INPUT: true; the input reads as it did. -/
def fnChecksumOfCheckedDataIsZeroSpec : ChangeSpec := { name := "fnChecksumOfCheckedDataIsZero", fn := fun _ => fun
  | [d] => { results := [.lit (.bool true)], args := [d] }
  | _ => none }
def fnChecksumOfCheckedDataIsZeroRow : OpenClaim := { program := "qxb6601627a", sum := "0a7d378d3bb87fa6a86d0e30233bf68426289a51d52dfcb3714fd9782cc42dbc", func := "example.com/pacewire/pacewire/zzlaws_iphdr_b1.FnChecksumOfCheckedDataIsZero", spec := "fnChecksumOfCheckedDataIsZero", apart := false }
def FnChecksumOfCheckedDataIsZeroSaid : Prop := fnChecksumOfCheckedDataIsZeroRow.holds Try.pinned (OpenSpec.ofChange fnChecksumOfCheckedDataIsZeroSpec)

/-- ITS FALSE NEIGHBOUR: 'it returns false'. Refute it at one input. -/
def fnChecksumOfCheckedDataIsZeroWrong : ChangeSpec := { name := "fnChecksumOfCheckedDataIsZero", fn := fun _ => fun
  | [d] => { results := [.lit (.bool false)], args := [d] }
  | _ => none }
def FnChecksumOfCheckedDataIsZeroWrongFalsely : Prop := fnChecksumOfCheckedDataIsZeroRow.holds Try.pinned (OpenSpec.ofChange fnChecksumOfCheckedDataIsZeroWrong)

end Rows
end Go.Proofs.Qxb6601627a
