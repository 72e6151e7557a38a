/-
  No cell of these rows narrows 'for every input' (looked for: loops, veiled, ifaces, maps, wideKeys, modest, calm, conditions, laid).
  DERIVED. THE GIVEN ROWS OF THIS SEAT. 3 by the template 'for every input the law returns true; each argument reads behind the call as it read before'; 0 by the template 'total and deterministic' (their statements: Qxb6603444aTotals.lean).
  GIVEN WITH THE SEED: the statements are not yours to turn. If you find one false, say at which input.
  Laid BY PROGRAM, IN A SANDBOX (cutbox-rows.mjs): the forced cells as the released guide's own fill.sh prints them over the translation 087af12a93f843a4… (all of the seat's roots in one cut). By AI agents, Wed Nov 11 2026. No macro, syntax, notation, axiom, sorry.
-/
import Derived.Test.Qxb6603444aChecked
import GoSem.Claim
import GoSem.ClaimJoined
import GoSem.ClaimMapViews
import Derived.JoinedTies
import Derived.KernelRfl
namespace Go.Proofs.Qxb6603444a
/- THE CELL 'sum', in the pinned program and in every row, IS THE sha256 OF THE DUMP (.gsa) THAT Qxb6603444aProg.lean LOADS. Nothing in Lean hashes anything: it is a label: what it is worth is what the hold of that sum in a sandbox is worth. -/
noncomputable def Try.pinned : Pinned := { name := "qxb6603444a", sum := "087af12a93f843a4d46e4b0dbc0a73f9e2e1602104fd128ff5bab5a4eb4d0de7", checked := Try.checked }
namespace Rows
def none {H : Type} : Left H := { results := [], args := [] }

/-- 'zzlaws_internal_report_b1.FnLeapStatusOfDistinguishes': WHATEVER THE INPUT: true; the input reads as it did. -/
def fnLeapStatusOfDistinguishesSpec : ChangeSpec := { name := "fnLeapStatusOfDistinguishes", fn := fun _ => fun
  | [d1, d2] => { results := [.lit (.bool true)], args := [d1, d2] }
  | _ => none }
def fnLeapStatusOfDistinguishesRow : OpenClaim := { program := "qxb6603444a", sum := "087af12a93f843a4d46e4b0dbc0a73f9e2e1602104fd128ff5bab5a4eb4d0de7", func := "example.com/tickward/tickward/zzlaws_internal_report_b1.FnLeapStatusOfDistinguishes", spec := "fnLeapStatusOfDistinguishes", apart := false }
def FnLeapStatusOfDistinguishesSaid : Prop := fnLeapStatusOfDistinguishesRow.holds Try.pinned (OpenSpec.ofChange fnLeapStatusOfDistinguishesSpec)

/-- ITS FALSE NEIGHBOUR: 'it returns false'. Refute it at one input. -/
def fnLeapStatusOfDistinguishesWrong : ChangeSpec := { name := "fnLeapStatusOfDistinguishes", fn := fun _ => fun
  | [d1, d2] => { results := [.lit (.bool false)], args := [d1, d2] }
  | _ => none }
def FnLeapStatusOfDistinguishesWrongFalsely : Prop := fnLeapStatusOfDistinguishesRow.holds Try.pinned (OpenSpec.ofChange fnLeapStatusOfDistinguishesWrong)

/-- 'zzlaws_internal_report_b1.FnFastOrSlowSignSymmetry': WHATEVER THE INPUT: true; the input reads as it did. -/
def fnFastOrSlowSignSymmetrySpec : ChangeSpec := { name := "fnFastOrSlowSignSymmetry", fn := fun _ => fun
  | [d] => { results := [.lit (.bool true)], args := [d] }
  | _ => none }
def fnFastOrSlowSignSymmetryRow : OpenClaim := { program := "qxb6603444a", sum := "087af12a93f843a4d46e4b0dbc0a73f9e2e1602104fd128ff5bab5a4eb4d0de7", func := "example.com/tickward/tickward/zzlaws_internal_report_b1.FnFastOrSlowSignSymmetry", spec := "fnFastOrSlowSignSymmetry", apart := false }
def FnFastOrSlowSignSymmetrySaid : Prop := fnFastOrSlowSignSymmetryRow.holds Try.pinned (OpenSpec.ofChange fnFastOrSlowSignSymmetrySpec)

/-- ITS FALSE NEIGHBOUR: 'it returns false'. Refute it at one input. -/
def fnFastOrSlowSignSymmetryWrong : ChangeSpec := { name := "fnFastOrSlowSignSymmetry", fn := fun _ => fun
  | [d] => { results := [.lit (.bool false)], args := [d] }
  | _ => none }
def FnFastOrSlowSignSymmetryWrongFalsely : Prop := fnFastOrSlowSignSymmetryRow.holds Try.pinned (OpenSpec.ofChange fnFastOrSlowSignSymmetryWrong)

/-- 'zzlaws_internal_report_b1.FnFastOrSlowMonotone': WHATEVER THE INPUT: true; the input reads as it did. -/
def fnFastOrSlowMonotoneSpec : ChangeSpec := { name := "fnFastOrSlowMonotone", fn := fun _ => fun
  | [d1, d2] => { results := [.lit (.bool true)], args := [d1, d2] }
  | _ => none }
def fnFastOrSlowMonotoneRow : OpenClaim := { program := "qxb6603444a", sum := "087af12a93f843a4d46e4b0dbc0a73f9e2e1602104fd128ff5bab5a4eb4d0de7", func := "example.com/tickward/tickward/zzlaws_internal_report_b1.FnFastOrSlowMonotone", spec := "fnFastOrSlowMonotone", apart := false }
def FnFastOrSlowMonotoneSaid : Prop := fnFastOrSlowMonotoneRow.holds Try.pinned (OpenSpec.ofChange fnFastOrSlowMonotoneSpec)

/-- ITS FALSE NEIGHBOUR: 'it returns false'. Refute it at one input. -/
def fnFastOrSlowMonotoneWrong : ChangeSpec := { name := "fnFastOrSlowMonotone", fn := fun _ => fun
  | [d1, d2] => { results := [.lit (.bool false)], args := [d1, d2] }
  | _ => none }
def FnFastOrSlowMonotoneWrongFalsely : Prop := fnFastOrSlowMonotoneRow.holds Try.pinned (OpenSpec.ofChange fnFastOrSlowMonotoneWrong)

end Rows
end Go.Proofs.Qxb6603444a
