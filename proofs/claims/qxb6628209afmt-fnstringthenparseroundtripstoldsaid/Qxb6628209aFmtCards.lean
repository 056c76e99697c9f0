/-
  DERIVED. GIVEN WITH THE SEED: THE CARDS: each row of Qxb6628209aFmtRows.lean that lists a variable, with what it lists TIED to the program's text (the seventh form; the later family's looks); each row that meets fmt, with fmt's text TOLD by the authors' own Lean function (tested against real Go, not proved from fmt's source: count such statements apart). THE CARD IS WHAT COUNTS. Prove the row's statement (the work); the ties are given (Qxb6628209aFmtTie.lean); close each card by the builder's one call (the guide's Derived/Test/ToyasCard.lean, 'card_holds'). Laid BY PROGRAM, IN A SANDBOX (cutbox-door.mjs). By AI agents, Wed Nov 11 2026. No macro, syntax, notation, axiom, sorry.
-/
import Derived.Test.Qxb6628209aFmtRows
import GoSem.ClaimSeven
namespace Go.Proofs.Qxb6628209aFmt
namespace Rows

/-- THE TOLD CARD OF 'zzlaws_money_b1.FnStringThenParseRoundTrips'. -/
def fnStringThenParseRoundTripsCard : Claim7 := { stood := { row := fnStringThenParseRoundTripsRow, standIns := [], harness := (true, "091188fa629a6dd90ff195da07be96a8d4d6ee827d44ba7236a279ffb8fb3123"), looks := false }, told := true, goes := false }
def FnStringThenParseRoundTripsToldSaid : Prop := Claim7.holds Tryf.pinned (.plain (OpenSpec.ofChange fnStringThenParseRoundTripsSpec)) fnStringThenParseRoundTripsCard
/-- ITS FALSE NEIGHBOUR. Refute it at one input. -/
def FnStringThenParseRoundTripsToldWrongFalsely : Prop := Claim7.holds Tryf.pinned (.plain (OpenSpec.ofChange fnStringThenParseRoundTripsWrong)) fnStringThenParseRoundTripsCard
end Rows
end Go.Proofs.Qxb6628209aFmt
