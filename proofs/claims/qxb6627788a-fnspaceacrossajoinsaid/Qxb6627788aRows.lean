/-
  No cell of these rows narrows 'for every input' (looked for: loops, veiled, ifaces, maps, wideKeys, modest, calm, conditions, laid).
  DERIVED. THE GIVEN ROWS OF THIS SEAT. 2 by the template 'for every input the law returns true; each argument reads behind the call as it read before'; 0 by the template 'total and deterministic' (their statements: Qxb6627788aTotals.lean).
  GIVEN WITH THE SEED: the statements are not yours to turn. If you find one false, say at which input.
  Laid BY PROGRAM, IN A SANDBOX (cutbox-rows.mjs): the forced cells as the released guide's own fill.sh prints them over the translation fe695b9e96377960… (all of the seat's roots in one cut). By AI agents, Wed Nov 11 2026. No macro, syntax, notation, axiom, sorry.
-/
import Derived.Test.Qxb6627788aChecked
import GoSem.Claim
import GoSem.ClaimJoined
import GoSem.ClaimMapViews
import Derived.JoinedTies
import Derived.KernelRfl
namespace Go.Proofs.Qxb6627788a
/- THE CELL 'sum', in the pinned program and in every row, IS THE sha256 OF THE DUMP (.gsa) THAT Qxb6627788aProg.lean LOADS. Nothing in Lean hashes anything: it is a label: what it is worth is what the hold of that sum in a sandbox is worth. -/
noncomputable def Try.pinned : Pinned := { name := "qxb6627788a", sum := "fe695b9e9637796054cc09615e28526dab7fd2525d752e08f134d9915d5016bb", checked := Try.checked }
namespace Rows
def none {H : Type} : Left H := { results := [], args := [] }

/-- 'zzlaws_internal_fastjson_b1.FnSpaceStopsAtFirstNonSpace': WHATEVER THE INPUT: true; the input reads as it did. -/
def fnSpaceStopsAtFirstNonSpaceSpec : ChangeSpec := { name := "fnSpaceStopsAtFirstNonSpace", fn := fun _ => fun
  | [d1, d2, d3] => { results := [.lit (.bool true)], args := [d1, d2, d3] }
  | _ => none }
def fnSpaceStopsAtFirstNonSpaceRow : OpenClaim := { program := "qxb6627788a", sum := "fe695b9e9637796054cc09615e28526dab7fd2525d752e08f134d9915d5016bb", func := "example.com/reconcilium/reconcilium/zzlaws_internal_fastjson_b1.FnSpaceStopsAtFirstNonSpace", spec := "fnSpaceStopsAtFirstNonSpace", apart := false }
def FnSpaceStopsAtFirstNonSpaceSaid : Prop := fnSpaceStopsAtFirstNonSpaceRow.holds Try.pinned (OpenSpec.ofChange fnSpaceStopsAtFirstNonSpaceSpec)

/-- ITS FALSE NEIGHBOUR: 'it returns false'. Refute it at one input. -/
def fnSpaceStopsAtFirstNonSpaceWrong : ChangeSpec := { name := "fnSpaceStopsAtFirstNonSpace", fn := fun _ => fun
  | [d1, d2, d3] => { results := [.lit (.bool false)], args := [d1, d2, d3] }
  | _ => none }
def FnSpaceStopsAtFirstNonSpaceWrongFalsely : Prop := fnSpaceStopsAtFirstNonSpaceRow.holds Try.pinned (OpenSpec.ofChange fnSpaceStopsAtFirstNonSpaceWrong)

/-- 'zzlaws_internal_fastjson_b1.FnSpaceAcrossAJoin': WHATEVER THE INPUT: true; the input reads as it did. -/
def fnSpaceAcrossAJoinSpec : ChangeSpec := { name := "fnSpaceAcrossAJoin", fn := fun _ => fun
  | [d1, d2, d3, d4] => { results := [.lit (.bool true)], args := [d1, d2, d3, d4] }
  | _ => none }
def fnSpaceAcrossAJoinRow : OpenClaim := { program := "qxb6627788a", sum := "fe695b9e9637796054cc09615e28526dab7fd2525d752e08f134d9915d5016bb", func := "example.com/reconcilium/reconcilium/zzlaws_internal_fastjson_b1.FnSpaceAcrossAJoin", spec := "fnSpaceAcrossAJoin", apart := false }
def FnSpaceAcrossAJoinSaid : Prop := fnSpaceAcrossAJoinRow.holds Try.pinned (OpenSpec.ofChange fnSpaceAcrossAJoinSpec)

/-- ITS FALSE NEIGHBOUR: 'it returns false'. Refute it at one input. -/
def fnSpaceAcrossAJoinWrong : ChangeSpec := { name := "fnSpaceAcrossAJoin", fn := fun _ => fun
  | [d1, d2, d3, d4] => { results := [.lit (.bool false)], args := [d1, d2, d3, d4] }
  | _ => none }
def FnSpaceAcrossAJoinWrongFalsely : Prop := fnSpaceAcrossAJoinRow.holds Try.pinned (OpenSpec.ofChange fnSpaceAcrossAJoinWrong)

end Rows
end Go.Proofs.Qxb6627788a
