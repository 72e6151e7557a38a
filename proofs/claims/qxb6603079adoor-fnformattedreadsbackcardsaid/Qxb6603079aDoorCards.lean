/-
  DERIVED. GIVEN WITH THE SEED: THE CARDS: each row of Qxb6603079aDoorRows.lean that lists a variable, with what it lists TIED to the program's text (the seventh form; the later family's looks); each row that meets fmt, with fmt's text TOLD by the authors' own Lean function (tested against real Go, not proved from fmt's source: count such statements apart). THE CARD IS WHAT COUNTS. Prove the row's statement (the work); the ties are given (Qxb6603079aDoorTie.lean); close each card by the builder's one call (the guide's Derived/Test/ToyasCard.lean, 'card_holds'). Laid BY PROGRAM, IN A SANDBOX (cutbox-door.mjs). By AI agents, Wed Nov 11 2026. No macro, syntax, notation, axiom, sorry.
-/
import Derived.Test.Qxb6603079aDoorRows
import GoSem.ClaimSeven
namespace Go.Proofs.Qxb6603079aDoor
namespace Rows

/-- THE TIED CARD OF 'zzlaws_internal_value_b1.FnFormattedPositional'. -/
def fnFormattedPositionalCard : Claim7 := { stood := { row := fnFormattedPositionalRow, standIns := [], harness := (true, "0239a595946d17556170940cc4c9e02f2a903f34b502f5a3e1fc3865f08d979b"), looks := false }, kinds := [], alts := [], laidByText := true, laidKinds := [.data, .data, .data], laidTests := true, laidLooks := .later }
def FnFormattedPositionalCardSaid : Prop := Claim7.holds Tryd.pinned (.plain (OpenSpec.ofChange fnFormattedPositionalSpec)) fnFormattedPositionalCard

/-- THE TIED CARD OF 'zzlaws_internal_value_b1.FnFormattedReadsBack'. -/
def fnFormattedReadsBackCard : Claim7 := { stood := { row := fnFormattedReadsBackRow, standIns := [], harness := (true, "0239a595946d17556170940cc4c9e02f2a903f34b502f5a3e1fc3865f08d979b"), looks := false }, kinds := [], alts := [], laidByText := true, laidKinds := [.data, .data, .data], laidTests := true, laidLooks := .later }
def FnFormattedReadsBackCardSaid : Prop := Claim7.holds Tryd.pinned (.plain (OpenSpec.ofChange fnFormattedReadsBackSpec)) fnFormattedReadsBackCard

/-- THE TIED CARD OF 'zzlaws_internal_value_b1.FnFormattedLengthBound'. -/
def fnFormattedLengthBoundCard : Claim7 := { stood := { row := fnFormattedLengthBoundRow, standIns := [], harness := (true, "0239a595946d17556170940cc4c9e02f2a903f34b502f5a3e1fc3865f08d979b"), looks := false }, kinds := [], alts := [], laidByText := true, laidKinds := [.data, .data, .data], laidTests := true, laidLooks := .later }
def FnFormattedLengthBoundCardSaid : Prop := Claim7.holds Tryd.pinned (.plain (OpenSpec.ofChange fnFormattedLengthBoundSpec)) fnFormattedLengthBoundCard
end Rows
end Go.Proofs.Qxb6603079aDoor
