/-
  No cell of these rows narrows 'for every input' (looked for: loops, veiled, ifaces, maps, wideKeys, modest, calm, conditions, laid).
  DERIVED. THE GIVEN ROWS OF THIS SEAT. 2 by the template 'for every input the law returns true; each argument reads behind the call as it read before'; 0 by the template 'total and deterministic' (their statements: Qxb6627878aTotals.lean).
  GIVEN WITH THE SEED: the statements are not yours to turn. If you find one false, say at which input.
  Laid BY PROGRAM, IN A SANDBOX (cutbox-rows.mjs): the forced cells as the released guide's own fill.sh prints them over the translation a4a401b8737003a3… (all of the seat's roots in one cut). By AI agents, Wed Nov 11 2026. No macro, syntax, notation, axiom, sorry.
-/
import Derived.Test.Qxb6627878aChecked
import GoSem.Claim
import GoSem.ClaimJoined
import GoSem.ClaimMapViews
import Derived.JoinedTies
import Derived.KernelRfl
namespace Go.Proofs.Qxb6627878a
/- THE CELL 'sum', in the pinned program and in every row, IS THE sha256 OF THE DUMP (.gsa) THAT Qxb6627878aProg.lean LOADS. Nothing in Lean hashes anything: it is a label: what it is worth is what the hold of that sum in a sandbox is worth. -/
noncomputable def Try.pinned : Pinned := { name := "qxb6627878a", sum := "a4a401b8737003a3d5d7084a008c25ce2effff7628b73e2e46a5d17a8592fb00", checked := Try.checked }
namespace Rows
def none {H : Type} : Left H := { results := [], args := [] }

/-- 'zzlaws_internal_digraph_b1.FnNewAdjacencyMatchesStableSortByFrom': WHATEVER THE INPUT: true; the input reads as it did. -/
def fnNewAdjacencyMatchesStableSortByFromSpec : ChangeSpec := { name := "fnNewAdjacencyMatchesStableSortByFrom", fn := fun _ => fun
  | [d1, d2] => { results := [.lit (.bool true)], args := [d1, d2] }
  | _ => none }
def fnNewAdjacencyMatchesStableSortByFromRow : OpenClaim := { program := "qxb6627878a", sum := "a4a401b8737003a3d5d7084a008c25ce2effff7628b73e2e46a5d17a8592fb00", func := "example.com/relwarden/relwarden/zzlaws_internal_digraph_b1.FnNewAdjacencyMatchesStableSortByFrom", spec := "fnNewAdjacencyMatchesStableSortByFrom", apart := false }
def FnNewAdjacencyMatchesStableSortByFromSaid : Prop := fnNewAdjacencyMatchesStableSortByFromRow.holds Try.pinned (OpenSpec.ofChange fnNewAdjacencyMatchesStableSortByFromSpec)

/-- ITS FALSE NEIGHBOUR: 'it returns false'. Refute it at one input. -/
def fnNewAdjacencyMatchesStableSortByFromWrong : ChangeSpec := { name := "fnNewAdjacencyMatchesStableSortByFrom", fn := fun _ => fun
  | [d1, d2] => { results := [.lit (.bool false)], args := [d1, d2] }
  | _ => none }
def FnNewAdjacencyMatchesStableSortByFromWrongFalsely : Prop := fnNewAdjacencyMatchesStableSortByFromRow.holds Try.pinned (OpenSpec.ofChange fnNewAdjacencyMatchesStableSortByFromWrong)

/-- 'zzlaws_internal_digraph_b1.FnNewAdjacencySplitsAtAnyCut': WHATEVER THE INPUT: true; the input reads as it did. -/
def fnNewAdjacencySplitsAtAnyCutSpec : ChangeSpec := { name := "fnNewAdjacencySplitsAtAnyCut", fn := fun _ => fun
  | [d1, d2, d3] => { results := [.lit (.bool true)], args := [d1, d2, d3] }
  | _ => none }
def fnNewAdjacencySplitsAtAnyCutRow : OpenClaim := { program := "qxb6627878a", sum := "a4a401b8737003a3d5d7084a008c25ce2effff7628b73e2e46a5d17a8592fb00", func := "example.com/relwarden/relwarden/zzlaws_internal_digraph_b1.FnNewAdjacencySplitsAtAnyCut", spec := "fnNewAdjacencySplitsAtAnyCut", apart := false }
def FnNewAdjacencySplitsAtAnyCutSaid : Prop := fnNewAdjacencySplitsAtAnyCutRow.holds Try.pinned (OpenSpec.ofChange fnNewAdjacencySplitsAtAnyCutSpec)

/-- ITS FALSE NEIGHBOUR: 'it returns false'. Refute it at one input. -/
def fnNewAdjacencySplitsAtAnyCutWrong : ChangeSpec := { name := "fnNewAdjacencySplitsAtAnyCut", fn := fun _ => fun
  | [d1, d2, d3] => { results := [.lit (.bool false)], args := [d1, d2, d3] }
  | _ => none }
def FnNewAdjacencySplitsAtAnyCutWrongFalsely : Prop := fnNewAdjacencySplitsAtAnyCutRow.holds Try.pinned (OpenSpec.ofChange fnNewAdjacencySplitsAtAnyCutWrong)

end Rows
end Go.Proofs.Qxb6627878a
