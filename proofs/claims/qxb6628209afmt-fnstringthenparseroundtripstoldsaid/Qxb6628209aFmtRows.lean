/-
  No cell of these rows narrows 'for every input' (looked for: loops, veiled, ifaces, maps, wideKeys, modest, calm, conditions, laid).
  DERIVED. THE GIVEN ROWS OF THIS SEAT. 1 by the template 'for every input the law returns true; each argument reads behind the call as it read before'; 0 by the template 'total and deterministic' (their statements: Qxb6628209aFmtTotals.lean).
  GIVEN WITH THE SEED: the statements are not yours to turn. If you find one false, say at which input.
  Laid BY PROGRAM, IN A SANDBOX (cutbox-rows.mjs): the forced cells as the released guide's own fill.sh prints them over the translation a49289722c912c90… (all of the seat's roots in one cut). By AI agents, Wed Nov 11 2026. No macro, syntax, notation, axiom, sorry.
-/
import Derived.Test.Qxb6628209aFmtChecked
import GoSem.Claim
import GoSem.ClaimJoined
import GoSem.ClaimMapViews
import Derived.JoinedTies
import Derived.KernelRfl
namespace Go.Proofs.Qxb6628209aFmt
/- THE CELL 'sum', in the pinned program and in every row, IS THE sha256 OF THE DUMP (.gsa) THAT Qxb6628209aFmtProg.lean LOADS. Nothing in Lean hashes anything: it is a label: what it is worth is what the hold of that sum in a sandbox is worth. -/
noncomputable def Tryf.pinned : Pinned := { name := "qxb6628209afmt", sum := "a49289722c912c9086c71f9d42a9f3bb0fe0f55a5997aa8edf35ff13158c8981", checked := Tryf.checked }
namespace Rows
def none {H : Type} : Left H := { results := [], args := [] }

/-- 'zzlaws_money_b1.FnStringThenParseRoundTrips': WHATEVER THE INPUT: true; the input reads as it did. -/
def fnStringThenParseRoundTripsSpec : ChangeSpec := { name := "fnStringThenParseRoundTrips", fn := fun _ => fun
  | [d] => { results := [.lit (.bool true)], args := [d] }
  | _ => none }
def fnStringThenParseRoundTripsRow : OpenClaim := { program := "qxb6628209afmt", sum := "a49289722c912c9086c71f9d42a9f3bb0fe0f55a5997aa8edf35ff13158c8981", func := "example.com/tuoguan/tuoguan/zzlaws_money_b1.FnStringThenParseRoundTrips", spec := "fnStringThenParseRoundTrips", stops := ["fmt.Sprintf", "fmt.errorf"], inPlace := ["fmt.Sprintf", "fmt.errorf"], apart := false }
/-- NO THEOREM (fmt's text is open here; it may be false): for the released tool's asking of the row's closed facts alone. THE STATEMENT IS 'FnStringThenParseRoundTripsToldSaid' (Qxb6628209aFmtCards.lean). -/
def FnStringThenParseRoundTripsFormAsk : Prop := fnStringThenParseRoundTripsRow.holds Tryf.pinned (OpenSpec.ofChange fnStringThenParseRoundTripsSpec)

/-- ITS FALSE NEIGHBOUR: 'it returns false'. Refute it at one input. -/
def fnStringThenParseRoundTripsWrong : ChangeSpec := { name := "fnStringThenParseRoundTrips", fn := fun _ => fun
  | [d] => { results := [.lit (.bool false)], args := [d] }
  | _ => none }
def FnStringThenParseRoundTripsWrongFormAsk : Prop := fnStringThenParseRoundTripsRow.holds Tryf.pinned (OpenSpec.ofChange fnStringThenParseRoundTripsWrong)

end Rows
end Go.Proofs.Qxb6628209aFmt
