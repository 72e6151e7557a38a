/-
  DERIVED. GIVEN WITH THE SEED: THE CARDS: each row of Qxb6603072aDoorRows.lean that lists a variable, with what it lists TIED to the program's text (the seventh form; the later family's looks); each row that meets fmt, with fmt's text TOLD by the authors' own Lean function (tested against real Go, not proved from fmt's source: count such statements apart). THE CARD IS WHAT COUNTS. Prove the row's statement (the work); the ties are given (Qxb6603072aDoorTie.lean); close each card by the builder's one call (the guide's Derived/Test/ToyasCard.lean, 'card_holds'). Laid BY PROGRAM, IN A SANDBOX (cutbox-door.mjs). By AI agents, Wed Nov 11 2026. No macro, syntax, notation, axiom, sorry.
-/
import Derived.Test.Qxb6603072aDoorRows
import GoSem.ClaimSeven
namespace Go.Proofs.Qxb6603072aDoor
namespace Rows

/-- THE TIED CARD OF 'zzlaws_root_b1.FnSkipReasonStringInjective'. -/
def fnSkipReasonStringInjectiveCard : Claim7 := { stood := { row := fnSkipReasonStringInjectiveRow, standIns := [], harness := (true, "294a11fccfbcd96815ae6d3e4d1553a80120148c0b5edcd86c3c60cf0d4bcf0f"), looks := false }, kinds := [], alts := [], laidByText := true, laidKinds := [.data, .data, .data], laidTests := true, laidLooks := .later }
def FnSkipReasonStringInjectiveCardSaid : Prop := Claim7.holds Tryd.pinned (.plain (OpenSpec.ofChange fnSkipReasonStringInjectiveSpec)) fnSkipReasonStringInjectiveCard

/-- THE TIED CARD OF 'zzlaws_root_b1.FnWriteIntegerShortlexFollowsMagnitude'. -/
def fnWriteIntegerShortlexFollowsMagnitudeCard : Claim7 := { stood := { row := fnWriteIntegerShortlexFollowsMagnitudeRow, standIns := [], harness := (true, "294a11fccfbcd96815ae6d3e4d1553a80120148c0b5edcd86c3c60cf0d4bcf0f"), looks := false }, kinds := [], alts := [], laidByText := true, laidKinds := [.data, .data, .data], laidTests := true, laidLooks := .later }
def FnWriteIntegerShortlexFollowsMagnitudeCardSaid : Prop := Claim7.holds Tryd.pinned (.plain (OpenSpec.ofChange fnWriteIntegerShortlexFollowsMagnitudeSpec)) fnWriteIntegerShortlexFollowsMagnitudeCard
end Rows
end Go.Proofs.Qxb6603072aDoor
