/-
  No cell of these rows narrows 'for every input' (looked for: loops, veiled, ifaces, maps, wideKeys, modest, calm, conditions, laid).
  DERIVED. THE GIVEN ROWS OF THIS SEAT. 2 by the template 'for every input the law returns true; each argument reads behind the call as it read before'; 0 by the template 'total and deterministic' (their statements: Qxb6603457aTotals.lean).
  GIVEN WITH THE SEED: the statements are not yours to turn. If you find one false, say at which input.
  Laid BY PROGRAM, IN A SANDBOX (cutbox-rows.mjs): the forced cells as the released guide's own fill.sh prints them over the translation fc074ce302142087… (all of the seat's roots in one cut). By AI agents, Wed Nov 11 2026. No macro, syntax, notation, axiom, sorry.
-/
import Derived.Test.Qxb6603457aChecked
import GoSem.Claim
import GoSem.ClaimJoined
import GoSem.ClaimMapViews
import Derived.JoinedTies
import Derived.KernelRfl
namespace Go.Proofs.Qxb6603457a
/- THE CELL 'sum', in the pinned program and in every row, IS THE sha256 OF THE DUMP (.gsa) THAT Qxb6603457aProg.lean LOADS. Nothing in Lean hashes anything: it is a label: what it is worth is what the hold of that sum in a sandbox is worth. -/
noncomputable def Try.pinned : Pinned := { name := "qxb6603457a", sum := "fc074ce30214208737546515d912dfe9b0c8abe76eff863c0972ce832eb087d3", checked := Try.checked }
namespace Rows
def none {H : Type} : Left H := { results := [], args := [] }

/-- 'zzlaws_manifest_b1.FnFieldPathNestsAssociatively': WHATEVER THE INPUT: true; the input reads as it did. -/
def fnFieldPathNestsAssociativelySpec : ChangeSpec := { name := "fnFieldPathNestsAssociatively", fn := fun _ => fun
  | [d1, d2, d3] => { results := [.lit (.bool true)], args := [d1, d2, d3] }
  | _ => none }
def fnFieldPathNestsAssociativelyRow : OpenClaim := { program := "qxb6603457a", sum := "fc074ce30214208737546515d912dfe9b0c8abe76eff863c0972ce832eb087d3", func := "example.com/enclave4/enclave4/zzlaws_manifest_b1.FnFieldPathNestsAssociatively", spec := "fnFieldPathNestsAssociatively", apart := false }
def FnFieldPathNestsAssociativelySaid : Prop := fnFieldPathNestsAssociativelyRow.holds Try.pinned (OpenSpec.ofChange fnFieldPathNestsAssociativelySpec)

/-- ITS FALSE NEIGHBOUR: 'it returns false'. Refute it at one input. -/
def fnFieldPathNestsAssociativelyWrong : ChangeSpec := { name := "fnFieldPathNestsAssociatively", fn := fun _ => fun
  | [d1, d2, d3] => { results := [.lit (.bool false)], args := [d1, d2, d3] }
  | _ => none }
def FnFieldPathNestsAssociativelyWrongFalsely : Prop := fnFieldPathNestsAssociativelyRow.holds Try.pinned (OpenSpec.ofChange fnFieldPathNestsAssociativelyWrong)

/-- 'zzlaws_manifest_b1.FnFieldPathSplitsBackAtLastDot': WHATEVER THE INPUT: true; the input reads as it did. -/
def fnFieldPathSplitsBackAtLastDotSpec : ChangeSpec := { name := "fnFieldPathSplitsBackAtLastDot", fn := fun _ => fun
  | [d1, d2] => { results := [.lit (.bool true)], args := [d1, d2] }
  | _ => none }
def fnFieldPathSplitsBackAtLastDotRow : OpenClaim := { program := "qxb6603457a", sum := "fc074ce30214208737546515d912dfe9b0c8abe76eff863c0972ce832eb087d3", func := "example.com/enclave4/enclave4/zzlaws_manifest_b1.FnFieldPathSplitsBackAtLastDot", spec := "fnFieldPathSplitsBackAtLastDot", apart := false }
def FnFieldPathSplitsBackAtLastDotSaid : Prop := fnFieldPathSplitsBackAtLastDotRow.holds Try.pinned (OpenSpec.ofChange fnFieldPathSplitsBackAtLastDotSpec)

/-- ITS FALSE NEIGHBOUR: 'it returns false'. Refute it at one input. -/
def fnFieldPathSplitsBackAtLastDotWrong : ChangeSpec := { name := "fnFieldPathSplitsBackAtLastDot", fn := fun _ => fun
  | [d1, d2] => { results := [.lit (.bool false)], args := [d1, d2] }
  | _ => none }
def FnFieldPathSplitsBackAtLastDotWrongFalsely : Prop := fnFieldPathSplitsBackAtLastDotRow.holds Try.pinned (OpenSpec.ofChange fnFieldPathSplitsBackAtLastDotWrong)

end Rows
end Go.Proofs.Qxb6603457a
