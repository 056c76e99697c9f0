/-
  A slice of edges that came in, opened.
-/
import Derived.Test.Qxb6627878aRows
import Derived.Test.Qxb6627878aLeaf
import Derived.WalkKit
import Derived.ProofKit
import Derived.OpenShut
import Derived.ShutString
import Derived.ChangeOld
import Derived.Below
import Derived.Deep.SlicePairs
namespace Go.Proofs.Qxb6627878a.frame
open Go.ChangeShapes Go.WideShapes Go.ChangeAt Go.RowKit Go.Deep
open Go.Proofs.Qxb6627878a.plain Go.Proofs.Qxb6627878a.leaf
set_option linter.unusedVariables false

theorem own : ownKnob Try.prog.godebug = none := by kernel_rfl
theorem laidOut : laidOutB Try.prog = true := by kernel_rfl

theorem open_edges {H : Type} {enc : TypeId × Value → H} {W : World} {a : Option Addr} {len cap : Nat} {x : DataW H × List MemPlace} (h : ∃ fuel, DataW.trod enc Try.prog W 0 (fun _ => true) true fuel 22 (Value.slice a len cap).cells.toList = some x) :
    ∃ es : List E, es.length = len ∧ len ≤ cap ∧ len ≤ maxLen ∧ Fits es ∧ (a = none → es = []) ∧ Edges W a es := by
  obtain ⟨fuel, hf⟩ := h
  rcases open_slice_pairs Try.underlying22 Try.underlying33 (by kernel_rfl) rfl rfl (by kernel_rfl) (by kernel_rfl) hf with ⟨hcs, _⟩ | ⟨ad, l, c, m, n, V0, V1, D0, D1, P0, P1, hcs, _, hl, hm, hmm, _, hc⟩
  · simp [Value.cells] at hcs
    obtain ⟨rfl, rfl, rfl⟩ := hcs
    exact ⟨[], rfl, Nat.le_refl _, by omega, fun i hi => by simp at hi, fun _ => rfl, fun h => by simp at h⟩
  · simp [Value.cells] at hcs
    obtain ⟨rfl, rfl, rfl⟩ := hcs
    have hml : len ≤ m := by rw [hmm]; split <;> omega
    have each : ∀ i, i < len → ∃ q : Int × Int, W.cell? (ad.add (i * 2)) = some (.int .i32 q.1) ∧ W.cell? (ad.add (i * 2 + 1)) = some (.int .i32 q.2) ∧ (Lit.int .i32 q.1).wf = true ∧ (Lit.int .i32 q.2).wf = true := by
      intro i hi
      obtain ⟨h1, h2, h3, h4⟩ := hc i (by omega)
      obtain ⟨z1, e1, _, w1⟩ := DataW.trod_int Try.underlying21 h3
      obtain ⟨z2, e2, _, w2⟩ := DataW.trod_int Try.underlying21 h4
      simp only [List.cons.injEq, and_true] at e1 e2
      exact ⟨(z1, z2), by rw [h1, e1], by rw [h2, e2], w1, w2⟩
    obtain ⟨q, hq⟩ := choose_lt each
    have gd : ∀ i, i < len → ((List.range len).map q).getD i (0, 0) = q i := fun i hi => by
      rw [List.getD_eq_getElem?_getD, List.getElem?_map, List.getElem?_range hi]; rfl
    refine ⟨(List.range len).map q, by simp, hl, by omega, ?_, (fun h => by cases h), ?_⟩
    · intro i hi
      simp only [List.length_map, List.length_range] at hi
      rw [gd i hi]
      obtain ⟨_, _, w1, w2⟩ := hq i hi
      simp [Lit.wf] at w1 w2
      have e1 : IntKind.i32.min = -2147483648 := by decide
      have e2 : IntKind.i32.max = 2147483647 := by decide
      rw [e1, e2] at w1 w2
      exact ⟨w1, w2⟩
    · intro hp
      simp only [List.length_map, List.length_range] at hp
      obtain ⟨b, off, spot⟩ := ad
      obtain ⟨h0, _, _, _⟩ := hq 0 hp
      have hs : spot = none := by simpa [Addr.add] using World.cell?_spot h0
      subst hs
      have hlt : b < W.heap.size := by simpa [Addr.add] using block_lt_of_cell h0
      refine ⟨b, off, rfl, hlt, fun i hi => ?_⟩
      simp only [List.length_map, List.length_range] at hi
      rw [gd i hi]
      obtain ⟨c0, c1, _, _⟩ := hq i hi
      rw [add_plain] at c0 c1
      exact ⟨c0, c1⟩

end Go.Proofs.Qxb6627878a.frame
