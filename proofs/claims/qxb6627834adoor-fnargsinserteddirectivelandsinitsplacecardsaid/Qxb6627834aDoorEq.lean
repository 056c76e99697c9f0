/-
  The contract of eqArgsB1 (function 9) at two grids of one content.
-/
import Derived.Test.Qxb6627834aDoorOf
namespace Go.Proofs.Qxb6627834aDoor.eqargs
open Go.RowKit Go.Proofs.Qxb6627834aDoor.plain Go.Proofs.Qxb6627834aDoor.grid
set_option linter.unusedVariables false

theorem inner_at {w : World} {ao : Option Addr} {c : Nat} {L : List ByteArray} (h : Inner w (.slice ao L.length c) L) {j : Nat} (hj : j < L.length) : ∃ g, ao = some ⟨g, 0, none⟩ ∧ w.cell? ⟨g, j, none⟩ = some (.string (L.getD j ByteArray.empty)) := by
  obtain ⟨base, hown⟩ := h
  rcases hown.2 with ⟨h', h0⟩ | ⟨g, cap, cur, h', _, hh, _⟩
  · omega
  · have hown2 := hown
    rw [h'] at hown2
    simp only [Value.slice.injEq] at h'
    refine ⟨g, h'.1, ?_⟩
    have := hown2.cellAt j (by omega)
    rw [this, List.getElem?_map, List.getD_eq_getElem?_getD, List.getElem?_eq_getElem hj]
    rfl
theorem grid_at {w : World} {base : Nat} {ao : Option Addr} {c : Nat} {LL : List (List ByteArray)} (h : Grid w base (.slice ao LL.length c) LL) {i : Nat} (hi : i < LL.length) :
    ∃ g bo d, ao = some ⟨g, 0, none⟩ ∧ w.cell? ⟨g, i, none⟩ = some (.slice bo (LL.getD i []).length d) ∧ Inner w (.slice bo (LL.getD i []).length d) (LL.getD i []) := by
  obtain ⟨xs, hxl, hown, hin⟩ := h
  obtain ⟨b', hi'⟩ := hin i hi
  obtain ⟨bo, d, hx⟩ := own_shape hi'
  rcases hown.2 with ⟨h', h0⟩ | ⟨g, cap, cur, h', _, hh, _⟩
  · omega
  · have hown2 := hown
    rw [h'] at hown2
    simp only [Value.slice.injEq] at h'
    refine ⟨g, bo, d, h'.1, ?_, ⟨b', by rw [← hx]; exact hi'⟩⟩
    have := hown2.cellAt i (by omega)
    rw [this, ← hx, List.getD_eq_getElem?_getD, List.getElem?_eq_getElem (by omega)]
    rfl

set_option maxHeartbeats 4000000 in
set_option maxRecDepth 100000 in
/-- THE CONTRACT OF eqArgsB1: two grids of one content are equal. -/
theorem eq_same (a1 a2 : Option Addr) (c1 c2 b1 b2 : Nat) (LL : List (List ByteArray)) (w : World) (hL : LL.length ≤ 4194304) (hS : ∀ i, i < LL.length → (LL.getD i []).length ≤ 4194304) (g1 : Grid w b1 (.slice a1 LL.length c1) LL) (g2 : Grid w b2 (.slice a2 LL.length c2) LL) :
    Calls Tryd.prog 9 #[.slice a1 LL.length c1, .slice a2 LL.length c2] w fun e w' => e = .returned (.bool true) ∧ ∃ n, w' = w.drewN n := by
  go_enter Tryd.func9, Tryd.ntmps9
  go_wp2
  go_loopg [5] LL.length (fun g x wr => ∃ k n : Nat, k ≤ LL.length ∧ g = LL.length - k ∧ x = .int .i64 k ∧ wr = w.drewN n)
  case atStart => exact ⟨0, 0, Nat.zero_le _, rfl, rfl, rfl⟩
  case round =>
    obtain ⟨k, n, hk, rfl, rfl, rfl⟩ := hrel
    by_cases hlt : k < LL.length
    · obtain ⟨p1, bo1, d1, rfl, ce1, in1⟩ := grid_at g1 hlt
      obtain ⟨p2, bo2, d2, rfl, ce2, in2⟩ := grid_at g2 hlt
      have hl := hS k hlt
      generalize LL.getD k [] = M at *
      have kz : (k : Int) < (LL.length : Int) := by omega
      have nb : ((M.length : Int) != (M.length : Int)) = false := by simp
      go_wp2
      go_quiet (fail)
      go_wp2
      go_loopg [6] M.length (fun g x wr => ∃ j n : Nat, j ≤ M.length ∧ g = M.length - j ∧ x = .int .i64 j ∧ wr = w.drewN n)
      case atStart => exact ⟨0, n + nq, Nat.zero_le _, rfl, rfl, by simp⟩
      case round =>
        obtain ⟨j, n, hj, rfl, rfl, rfl⟩ := hrel
        by_cases hjl : j < M.length
        · obtain ⟨q1, rfl, cs1⟩ := inner_at in1 hjl
          obtain ⟨q2, rfl, cs2⟩ := inner_at in2 hjl
          generalize M.getD j ByteArray.empty = s at *
          have jz : (j : Int) < (M.length : Int) := by omega
          have sb : (s.toList != s.toList) = false := by simp
          go_wp2
          go_quiet (fail)
          go_wp2
          go_roundg (M.length - (j + 1))
          case measure => omega
          case rel => exact ⟨j + 1, n + nq, by omega, rfl, by go_num, by simp⟩
        · have jb : decide (j < M.length) = false := decide_eq_false hjl
          go_wp2
          go_roundg (LL.length - (k + 1))
          case measure => omega
          case rel => exact ⟨k + 1, n, by omega, rfl, by go_num, rfl⟩
    · go_wp2
      go_ret
      exact ⟨rfl, n, rfl⟩

end Go.Proofs.Qxb6627834aDoor.eqargs
