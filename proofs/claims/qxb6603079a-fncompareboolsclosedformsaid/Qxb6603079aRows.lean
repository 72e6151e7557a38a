/-
  No cell of these rows narrows 'for every input' (looked for: loops, veiled, ifaces, maps, wideKeys, modest, calm, conditions, laid).
  DERIVED. THE GIVEN ROWS OF THIS SEAT. 3 by the template 'for every input the law returns true; each argument reads behind the call as it read before'; 0 by the template 'total and deterministic' (their statements: Qxb6603079aTotals.lean).
  GIVEN WITH THE SEED: the statements are not yours to turn. If you find one false, say at which input.
  Laid BY PROGRAM, IN A SANDBOX (cutbox-rows.mjs): the forced cells as the released guide's own fill.sh prints them over the translation 4c653f079e6996da… (all of the seat's roots in one cut). By AI agents, Wed Nov 11 2026. No macro, syntax, notation, axiom, sorry.
-/
import Derived.Test.Qxb6603079aChecked
import GoSem.Claim
import GoSem.ClaimJoined
import GoSem.ClaimMapViews
import Derived.JoinedTies
import Derived.KernelRfl
namespace Go.Proofs.Qxb6603079a
/- THE CELL 'sum', in the pinned program and in every row, IS THE sha256 OF THE DUMP (.gsa) THAT Qxb6603079aProg.lean LOADS. Nothing in Lean hashes anything: it is a label: what it is worth is what the hold of that sum in a sandbox is worth. -/
noncomputable def Try.pinned : Pinned := { name := "qxb6603079a", sum := "4c653f079e6996da66ce795c53eba4784e6410d731d6bff2df13611663d52023", checked := Try.checked }
namespace Rows
def none {H : Type} : Left H := { results := [], args := [] }

/-- 'zzlaws_internal_value_b1.FnAllocatedBounds': WHATEVER THE INPUT: true; the input reads as it did. -/
def fnAllocatedBoundsSpec : ChangeSpec := { name := "fnAllocatedBounds", fn := fun _ => fun
  | [d] => { results := [.lit (.bool true)], args := [d] }
  | _ => none }
def fnAllocatedBoundsRow : OpenClaim := { program := "qxb6603079a", sum := "4c653f079e6996da66ce795c53eba4784e6410d731d6bff2df13611663d52023", func := "example.com/policy-evaluator/policy-evaluator/zzlaws_internal_value_b1.FnAllocatedBounds", spec := "fnAllocatedBounds", apart := false }
def FnAllocatedBoundsSaid : Prop := fnAllocatedBoundsRow.holds Try.pinned (OpenSpec.ofChange fnAllocatedBoundsSpec)

/-- ITS FALSE NEIGHBOUR: 'it returns false'. Refute it at one input. -/
def fnAllocatedBoundsWrong : ChangeSpec := { name := "fnAllocatedBounds", fn := fun _ => fun
  | [d] => { results := [.lit (.bool false)], args := [d] }
  | _ => none }
def FnAllocatedBoundsWrongFalsely : Prop := fnAllocatedBoundsRow.holds Try.pinned (OpenSpec.ofChange fnAllocatedBoundsWrong)

/-- 'zzlaws_internal_value_b1.FnAllocatedMonotone': WHATEVER THE INPUT: true; the input reads as it did. -/
def fnAllocatedMonotoneSpec : ChangeSpec := { name := "fnAllocatedMonotone", fn := fun _ => fun
  | [d1, d2] => { results := [.lit (.bool true)], args := [d1, d2] }
  | _ => none }
def fnAllocatedMonotoneRow : OpenClaim := { program := "qxb6603079a", sum := "4c653f079e6996da66ce795c53eba4784e6410d731d6bff2df13611663d52023", func := "example.com/policy-evaluator/policy-evaluator/zzlaws_internal_value_b1.FnAllocatedMonotone", spec := "fnAllocatedMonotone", apart := false }
def FnAllocatedMonotoneSaid : Prop := fnAllocatedMonotoneRow.holds Try.pinned (OpenSpec.ofChange fnAllocatedMonotoneSpec)

/-- ITS FALSE NEIGHBOUR: 'it returns false'. Refute it at one input. -/
def fnAllocatedMonotoneWrong : ChangeSpec := { name := "fnAllocatedMonotone", fn := fun _ => fun
  | [d1, d2] => { results := [.lit (.bool false)], args := [d1, d2] }
  | _ => none }
def FnAllocatedMonotoneWrongFalsely : Prop := fnAllocatedMonotoneRow.holds Try.pinned (OpenSpec.ofChange fnAllocatedMonotoneWrong)

/-- 'zzlaws_internal_value_b1.FnCompareBoolsClosedForm': WHATEVER THE INPUT: true; the input reads as it did. -/
def fnCompareBoolsClosedFormSpec : ChangeSpec := { name := "fnCompareBoolsClosedForm", fn := fun _ => fun
  | [d1, d2] => { results := [.lit (.bool true)], args := [d1, d2] }
  | _ => none }
def fnCompareBoolsClosedFormRow : OpenClaim := { program := "qxb6603079a", sum := "4c653f079e6996da66ce795c53eba4784e6410d731d6bff2df13611663d52023", func := "example.com/policy-evaluator/policy-evaluator/zzlaws_internal_value_b1.FnCompareBoolsClosedForm", spec := "fnCompareBoolsClosedForm", apart := false }
def FnCompareBoolsClosedFormSaid : Prop := fnCompareBoolsClosedFormRow.holds Try.pinned (OpenSpec.ofChange fnCompareBoolsClosedFormSpec)

/-- ITS FALSE NEIGHBOUR: 'it returns false'. Refute it at one input. -/
def fnCompareBoolsClosedFormWrong : ChangeSpec := { name := "fnCompareBoolsClosedForm", fn := fun _ => fun
  | [d1, d2] => { results := [.lit (.bool false)], args := [d1, d2] }
  | _ => none }
def FnCompareBoolsClosedFormWrongFalsely : Prop := fnCompareBoolsClosedFormRow.holds Try.pinned (OpenSpec.ofChange fnCompareBoolsClosedFormWrong)

end Rows
end Go.Proofs.Qxb6603079a
