/-
  DERIVED. GIVEN WITH THE SEED: THE CARDS: each row of Qxb6627834aDoorRows.lean that lists a variable, with what it lists TIED to the program's text (the seventh form; the later family's looks); each row that meets fmt, with fmt's text TOLD by the authors' own Lean function (tested against real Go, not proved from fmt's source: count such statements apart). THE CARD IS WHAT COUNTS. Prove the row's statement (the work); the ties are given (Qxb6627834aDoorTie.lean); close each card by the builder's one call (the guide's Derived/Test/ToyasCard.lean, 'card_holds'). Laid BY PROGRAM, IN A SANDBOX (cutbox-door.mjs). By AI agents, Wed Nov 11 2026. No macro, syntax, notation, axiom, sorry.
-/
import Derived.Test.Qxb6627834aDoorRows
import GoSem.ClaimSeven
namespace Go.Proofs.Qxb6627834aDoor
namespace Rows

/-- THE TIED CARD OF 'zzlaws_internal_directive_b1.FnArgsSplitAtAnyCutAndMatchesModel'. -/
def fnArgsSplitAtAnyCutAndMatchesModelCard : Claim7 := { stood := { row := fnArgsSplitAtAnyCutAndMatchesModelRow, standIns := [], harness := (true, "e7b39979a535cc0ad1753ac5538615e75e621d5e158fe8b0b782cf022e593cf4"), looks := false }, kinds := [], alts := [], laidByText := true, laidKinds := [.listed, .data], laidTests := true, laidLooks := .later }
def FnArgsSplitAtAnyCutAndMatchesModelCardSaid : Prop := Claim7.holds Tryd.pinned (.plain (OpenSpec.ofChange fnArgsSplitAtAnyCutAndMatchesModelSpec)) fnArgsSplitAtAnyCutAndMatchesModelCard

/-- THE TIED CARD OF 'zzlaws_internal_directive_b1.FnArgsInsertedDirectiveLandsInItsPlace'. -/
def fnArgsInsertedDirectiveLandsInItsPlaceCard : Claim7 := { stood := { row := fnArgsInsertedDirectiveLandsInItsPlaceRow, standIns := [], harness := (true, "e7b39979a535cc0ad1753ac5538615e75e621d5e158fe8b0b782cf022e593cf4"), looks := false }, kinds := [], alts := [], laidByText := true, laidKinds := [.listed, .data], laidTests := true, laidLooks := .later }
def FnArgsInsertedDirectiveLandsInItsPlaceCardSaid : Prop := Claim7.holds Tryd.pinned (.plain (OpenSpec.ofChange fnArgsInsertedDirectiveLandsInItsPlaceSpec)) fnArgsInsertedDirectiveLandsInItsPlaceCard
end Rows
end Go.Proofs.Qxb6627834aDoor
