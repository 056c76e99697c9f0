/-
  The contract of fieldsModelB1 (function 12): it hands back a new slice of the words.
-/
import Derived.Test.Qxb6627834aDoorSpace
import Derived.Test.Qxb6627834aDoorPieces
namespace Go.Proofs.Qxb6627834aDoor.fields
open Go.RowKit Go.Proofs.Qxb6627834aDoor.plain Go.Proofs.Qxb6627834aDoor.pieces Go.Proofs.Qxb6627834aDoor.spacew
set_option linter.unusedVariables false

theorem Tryd.info9 : (Tryd.prog.info? 9).map (fun i => (i.zero, i.size, i.bytes)) = some (some (.string ByteArray.empty), 1, 16) := by kernel_rfl

theorem one_cell (w : World) (x : Value) (t : TypeId) : ∀ (j : Nat) (u : Value), [x][j]? = some u → (w.alloc (.cells #[x] t)).cell? ((⟨w.heap.size, 0, none⟩ : Addr).add j) = some u := by
  intro j u hj
  match j, hj with
  | 0, hj => simp at hj; subst hj; simp [Addr.add]
theorem one_one (s : ByteArray) : ∀ u ∈ [Value.string s], u.oneCell' = true := by
  intro u hu; simp at hu; subst hu; rfl

theorem own_ge {w : World} {base : Nat} {e : TypeId} {size : Nat} {v : Value} {n : Nat} {xs : List Value} (h : w.ownsRow base e size v n xs) : ∀ k, v.ownBlock = some k → base ≤ k := by
  intro k hk
  rcases h.2 with ⟨rfl, _⟩ | ⟨g, cap, cur, rfl, hg, _⟩
  · simp [Value.ownBlock] at hk
  · simp [Value.ownBlock] at hk; omega
/-- Behind an append to a row of the call's own. -/
theorem below_append {w w1 w2 : World} {base : Nat} {e e' : TypeId} {size : Nat} {v x : Value} {n : Nat} {xs : List Value} (hb : Below base w w1) (hB : base ≤ w1.heap.size) (h : w1.ownsRow base e size v n xs) (hg : (w1.alloc (.cells #[x] e')).grownBy w2 v.ownBlock) : Below base w w2 :=
  (hb.alloc hB _).grown hg (by simp; omega) (own_ge h)

set_option maxHeartbeats 4000000 in
set_option maxRecDepth 100000 in
/-- THE CONTRACT OF fieldsModelB1. -/
theorem fields_any (s : ByteArray) (w : World) (hs : s.size ≤ 4194304) :
    Calls Tryd.prog 12 #[.string s] w fun e w' => ∃ v, e = .returned v ∧ w'.ownsRow w.heap.size 9 1 v (words s).length ((words s).map Value.string) ∧ Below w.heap.size w w' := by
  obtain ⟨i0, hi, hz0, hz1, hz2⟩ := info_parts Tryd.info9
  go_enter Tryd.func12, Tryd.ntmps12
  go_wp2
  go_loopg [3, 4, 5] s.size (fun g v x y wr => ∃ (i : Nat) (st : Option Nat) (acc : List ByteArray), i ≤ s.size ∧ g = s.size - i ∧ x = .int .i64 (stV st) ∧ y = .int .i64 i ∧ StOk st i ∧ Inv s i st acc ∧ wr.ownsRow w.heap.size 9 1 v acc.length (acc.map Value.string) ∧ Below w.heap.size w wr)
  case atStart => exact ⟨0, none, [], Nat.zero_le _, rfl, rfl, rfl, (fun a h => by cases h), inv_start s, World.ownsRow_nil _ _ _ _, Below.refl _ _⟩
  case round =>
    obtain ⟨i, st, acc, hil, rfl, rfl, rfl, hst, hinv, hown, hbl⟩ := hrel
    have hal := inv_len hinv
    by_cases hlt : i < s.size
    · have cW : Hid (∀ wx, Calls Tryd.prog 14 #[.string s, .int .i64 i] wx fun e w' => e = .returned (.int .i64 (Lib.headSpace (s.data.toList.drop i) : Nat)) ∧ w' = wx) := fun wx => width_any s i wx hlt hs
      have hle : Lib.headSpace (s.data.toList.drop i) ≤ s.size - i := by
        rw [head_at s i hlt]; exact width.swN_le _ _ _ _ (by omega)
      cases st with
      | none =>
        have hnx : Hid (0 < Lib.headSpace (s.data.toList.drop i) → Inv s (i + Lib.headSpace (s.data.toList.drop i)) none acc) := fun h => inv_sp hlt h hinv
        have hnn : Hid (Lib.headSpace (s.data.toList.drop i) = 0 → Inv s (i + 1) (some i) acc) := fun h => inv_non hlt h hinv
        generalize Lib.headSpace (s.data.toList.drop i) = h at *
        by_cases hp : 0 < h
        · simp only [stV]
          go_wp2_with (go_at_call 14; refine (cW.out _).mono ?_; rintro e w1 ⟨rfl, rfl⟩)
          go_roundg (s.size - (i + h))
          case measure => omega
          case rel => exact ⟨i + h, none, acc, by omega, rfl, rfl, by go_num, (fun a h => by cases h), hnx.out hp, hown, hbl⟩
        · have h0 : h = 0 := by omega
          have hN := hnn.out h0
          subst h0
          simp only [stV]
          go_wp2_with (go_at_call 14; refine (cW.out _).mono ?_; rintro e w1 ⟨rfl, rfl⟩)
          go_roundg (s.size - (i + 1))
          case measure => omega
          case rel => exact ⟨i + 1, some i, acc, by omega, rfl, rfl, by go_num, (fun a h => by cases h; omega), hN, hown, hbl⟩
      | some a =>
        have hai : a < i := hst a rfl
        have hnx : Hid (0 < Lib.headSpace (s.data.toList.drop i) → Inv s (i + Lib.headSpace (s.data.toList.drop i)) none (acc ++ [s.extract a i])) := fun h => inv_sp_open hlt hai h hinv
        have hnn : Hid (Lib.headSpace (s.data.toList.drop i) = 0 → Inv s (i + 1) (some a) acc) := fun h => inv_non_open hlt hai h hinv
        generalize Lib.headSpace (s.data.toList.drop i) = h at *
        by_cases hp : 0 < h
        · simp only [stV]
          go_wp2_with (first
            | (go_at_call 14; refine (cW.out _).mono ?_; rintro e w1 ⟨rfl, rfl⟩)
            | (at_builtin; refine wpList_append_own _ rfl (.tmp 18) (.tmp 23) 22 rfl w.heap.size 9 i0 (.string ByteArray.empty) 1 16 Tryd.underlying22 hi hz0 hz1 hz2 rfl (by decide) _ _ _ rfl (hown.alloc _) ⟨_, 0, none⟩ 1 1 [.string (s.extract a i)] rfl rfl (one_cell _ _ _) (one_one _) (by unfold maxLen; omega) (by omega) (by have := hbl.size; simp; omega) ?_; intro v' w2 hown2 hgrow2 _))
          have hbl2 := below_append hbl hbl.size hown hgrow2
          have hown3 : w2.ownsRow w.heap.size 9 1 v' (acc ++ [s.extract a i]).length ((acc ++ [s.extract a i]).map Value.string) := by simpa using hown2
          clear hown2 hgrow2
          go_roundg (s.size - (i + h))
          case measure => omega
          case rel => exact ⟨i + h, none, acc ++ [s.extract a i], by omega, rfl, rfl, by go_num, (fun a h => by cases h), hnx.out hp, hown3, hbl2⟩
        · have h0 : h = 0 := by omega
          have hN := hnn.out h0
          subst h0
          simp only [stV]
          go_wp2_with (go_at_call 14; refine (cW.out _).mono ?_; rintro e w1 ⟨rfl, rfl⟩)
          go_roundg (s.size - (i + 1))
          case measure => omega
          case rel => exact ⟨i + 1, some a, acc, by omega, rfl, rfl, by go_num, (fun b h => by cases h; omega), hN, hown, hbl⟩
    · cases st with
      | none =>
        have hw : acc = words s := inv_end (by omega) hinv
        have kb : decide (i < s.size) = false := decide_eq_false hlt
        have H : Hid (acc = words s) := hw
        clear hw
        simp only [stV]
        go_wp2
        go_ret
        exact ⟨_, rfl, by rw [← H.out]; exact hown, hbl⟩
      | some a =>
        have hai : a < i := hst a rfl
        have hw : acc ++ [s.extract a s.size] = words s := inv_end_open (by omega) (by omega) hinv
        have H : Hid (acc ++ [s.extract a s.size] = words s) := hw
        clear hw
        simp only [stV]
        go_wp2_with (at_builtin; refine wpList_append_own _ rfl (.tmp 35) (.tmp 39) 22 rfl w.heap.size 9 i0 (.string ByteArray.empty) 1 16 Tryd.underlying22 hi hz0 hz1 hz2 rfl (by decide) _ _ _ rfl (hown.alloc _) ⟨_, 0, none⟩ 1 1 [.string (s.extract a s.size)] rfl rfl (one_cell _ _ _) (one_one _) (by unfold maxLen; omega) (by omega) (by have := hbl.size; simp; omega) ?_; intro v' w2 hown2 hgrow2 _)
        have hbl2 := below_append hbl hbl.size hown hgrow2
        have hown3 : w2.ownsRow w.heap.size 9 1 v' (acc ++ [s.extract a s.size]).length ((acc ++ [s.extract a s.size]).map Value.string) := by simpa using hown2
        rw [H.out] at hown3
        go_ret
        exact ⟨_, rfl, hown3, hbl2⟩

end Go.Proofs.Qxb6627834aDoor.fields
