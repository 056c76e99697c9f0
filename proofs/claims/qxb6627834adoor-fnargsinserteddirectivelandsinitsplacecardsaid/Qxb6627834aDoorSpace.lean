/-
  The contract of spaceWidthB1 (function 14).
-/
import Derived.Test.Qxb6627834aDoorRest
import Derived.Test.Qxb6627834aDoorWidth
namespace Go.Proofs.Qxb6627834aDoor.spacew
open Go.RowKit Go.Proofs.Qxb6627834aDoor.plain Go.Proofs.Qxb6627834aDoor.width
set_option linter.unusedVariables false

theorem ret_int {k : IntKind} {a b : Int} (h : a = b) : Ending.returned (.int k a) = .returned (.int k b) := by rw [h]

theorem head_at (s : ByteArray) (i : Nat) (hi : i < s.size) : Lib.headSpace (s.data.toList.drop i) = swN (s.size - i) (s.data.toList.getD i 0).toNat (s.data.toList.getD (i + 1) 0).toNat (s.data.toList.getD (i + 2) 0).toNat := by
  have hl : (s.data.toList.drop i).length = s.size - i := by rw [List.length_drop, size_list]
  rw [head_sw _ (fun h => by rw [h] at hl; simp at hl; omega), hl]
  simp only [List.getD_eq_getElem?_getD, List.getElem?_drop, Nat.add_zero]

set_option maxHeartbeats 4000000 in
theorem walk_ascii (s : ByteArray) (i : Nat) (w : World) (hi : i < s.size) (hs : s.size ≤ 4194304) (b : Nat) (e0 : s[i].toNat = b) (hA : b = 32 ∨ b = 9 ∨ b = 10 ∨ b = 11 ∨ b = 12 ∨ b = 13) :
    Calls Tryd.prog 14 #[.string s, .int .i64 i] w fun e w' => e = .returned (.int .i64 1) ∧ w' = w := by
  rcases hA with h | h | h | h | h | h
  all_goals
    subst h
    go_enter Tryd.func14, Tryd.ntmps14
    go_wp2
    go_ret
    exact ⟨rfl, rfl⟩

theorem nb {b k : Nat} (h : b ≠ k) : ((b : Int) == (k : Int)) = false := by rw [beq_eq_false_iff_ne]; omega

set_option maxHeartbeats 4000000 in
theorem walk_c2_yes (s : ByteArray) (i : Nat) (w : World) (hi : i < s.size) (hs : s.size ≤ 4194304) (h1 : i + 1 < s.size) (b1 : Nat) (e0 : s[i].toNat = 194) (e1 : (s[i + 1]'h1).toNat = b1) (h : b1 = 133 ∨ b1 = 160) :
    Calls Tryd.prog 14 #[.string s, .int .i64 i] w fun e w' => e = .returned (.int .i64 2) ∧ w' = w := by
  rcases h with h | h
  all_goals
    subst h
    go_enter Tryd.func14, Tryd.ntmps14
    go_wp2
    go_ret
    exact ⟨rfl, rfl⟩

set_option maxHeartbeats 4000000 in
theorem walk_c2_no (s : ByteArray) (i : Nat) (w : World) (hi : i < s.size) (hs : s.size ≤ 4194304) (h1 : i + 1 < s.size) (b1 : Nat) (e0 : s[i].toNat = 194) (e1 : (s[i + 1]'h1).toNat = b1) (h2 : ((b1 : Int) == 133) = false) (h3 : ((b1 : Int) == 160) = false) :
    Calls Tryd.prog 14 #[.string s, .int .i64 i] w fun e w' => e = .returned (.int .i64 0) ∧ w' = w := by
  go_enter Tryd.func14, Tryd.ntmps14
  go_wp2
  go_ret
  exact ⟨rfl, rfl⟩

set_option maxHeartbeats 4000000 in
theorem walk_c2_end (s : ByteArray) (i : Nat) (w : World) (hi : i < s.size) (hs : s.size ≤ 4194304) (h1 : s.size ≤ i + 1) (e0 : s[i].toNat = 194) :
    Calls Tryd.prog 14 #[.string s, .int .i64 i] w fun e w' => e = .returned (.int .i64 0) ∧ w' = w := by
  go_enter Tryd.func14, Tryd.ntmps14
  go_wp2
  go_ret
  exact ⟨rfl, rfl⟩

set_option maxHeartbeats 4000000 in
theorem walk_short (s : ByteArray) (i : Nat) (w : World) (hi : i < s.size) (hs : s.size ≤ 4194304) (b : Nat) (e0 : s[i].toNat = b) (n1 : ((b : Int) == 32) = false) (n2 : ((b : Int) == 9) = false) (n3 : ((b : Int) == 10) = false) (n4 : ((b : Int) == 11) = false) (n5 : ((b : Int) == 12) = false) (n6 : ((b : Int) == 13) = false) (n7 : ((b : Int) == 194) = false) (h : s.size ≤ i + 2) :
    Calls Tryd.prog 14 #[.string s, .int .i64 i] w fun e w' => e = .returned (.int .i64 0) ∧ w' = w := by
  go_enter Tryd.func14, Tryd.ntmps14
  go_wp2
  go_ret
  exact ⟨rfl, rfl⟩

/-- The four shapes of three bytes. -/
def three (b b1 b2 : Nat) : Prop := (b = 225 ∧ b1 = 154 ∧ b2 = 128) ∨ (b = 226 ∧ b1 = 128 ∧ ((128 ≤ b2 ∧ b2 ≤ 138) ∨ b2 = 168 ∨ b2 = 169 ∨ b2 = 175)) ∨ (b = 226 ∧ b1 = 129 ∧ b2 = 159) ∨ (b = 227 ∧ b1 = 128 ∧ b2 = 128)

set_option maxHeartbeats 8000000 in
theorem walk_yes (s : ByteArray) (i : Nat) (w : World) (hi : i < s.size) (hs : s.size ≤ 4194304) (h : i + 2 < s.size) (b b1 b2 : Nat) (e0 : s[i].toNat = b) (e1 : (s[i + 1]'(by omega)).toNat = b1) (e2 : (s[i + 2]'h).toNat = b2) (ht : three b b1 b2) :
    Calls Tryd.prog 14 #[.string s, .int .i64 i] w fun e w' => e = .returned (.int .i64 3) ∧ w' = w := by
  have h1 : i + 1 < s.size := by omega
  rcases ht with ⟨rfl, rfl, rfl⟩ | ⟨rfl, rfl, ⟨h3, h4⟩ | rfl | rfl | rfl⟩ | ⟨rfl, rfl, rfl⟩ | ⟨rfl, rfl, rfl⟩
  all_goals
    go_enter Tryd.func14, Tryd.ntmps14
    go_wp2
    go_ret
    exact ⟨rfl, rfl⟩

set_option maxHeartbeats 8000000 in
/-- Another first byte. -/
theorem walk_other (s : ByteArray) (i : Nat) (w : World) (hi : i < s.size) (hs : s.size ≤ 4194304) (h1 : i + 1 < s.size) (h : i + 2 < s.size) (b : Nat) (e0 : s[i].toNat = b) (n1 : ((b : Int) == 32) = false) (n2 : ((b : Int) == 9) = false) (n3 : ((b : Int) == 10) = false) (n4 : ((b : Int) == 11) = false) (n5 : ((b : Int) == 12) = false) (n6 : ((b : Int) == 13) = false) (n7 : ((b : Int) == 194) = false)
    (m1 : ((b : Int) == 225) = false) (m2 : ((b : Int) == 226) = false) (m3 : ((b : Int) == 227) = false) :
    Calls Tryd.prog 14 #[.string s, .int .i64 i] w fun e w' => e = .returned (.int .i64 0) ∧ w' = w := by
  go_enter Tryd.func14, Tryd.ntmps14
  go_wp2
  go_ret
  exact ⟨rfl, rfl⟩

set_option maxHeartbeats 8000000 in
theorem walk_e1 (s : ByteArray) (i : Nat) (w : World) (hi : i < s.size) (hs : s.size ≤ 4194304) (h1 : i + 1 < s.size) (h : i + 2 < s.size) (b1 b2 : Nat) (e0 : s[i].toNat = 225) (e1 : (s[i + 1]'h1).toNat = b1) (e2 : (s[i + 2]'h).toNat = b2) (ht : ¬ (b1 = 154 ∧ b2 = 128)) :
    Calls Tryd.prog 14 #[.string s, .int .i64 i] w fun e w' => e = .returned (.int .i64 0) ∧ w' = w := by
  by_cases c1 : b1 = 154
  · have m : ((b2 : Int) == 128) = false := nb (k := 128) (fun e => ht ⟨c1, e⟩)
    subst c1
    go_enter Tryd.func14, Tryd.ntmps14
    go_wp2
    go_ret
    exact ⟨rfl, rfl⟩
  · have m : ((b1 : Int) == 154) = false := nb (k := 154) c1
    go_enter Tryd.func14, Tryd.ntmps14
    go_wp2
    go_ret
    exact ⟨rfl, rfl⟩

set_option maxHeartbeats 8000000 in
theorem walk_e3 (s : ByteArray) (i : Nat) (w : World) (hi : i < s.size) (hs : s.size ≤ 4194304) (h1 : i + 1 < s.size) (h : i + 2 < s.size) (b1 b2 : Nat) (e0 : s[i].toNat = 227) (e1 : (s[i + 1]'h1).toNat = b1) (e2 : (s[i + 2]'h).toNat = b2) (ht : ¬ (b1 = 128 ∧ b2 = 128)) :
    Calls Tryd.prog 14 #[.string s, .int .i64 i] w fun e w' => e = .returned (.int .i64 0) ∧ w' = w := by
  by_cases c1 : b1 = 128
  · have m : ((b2 : Int) == 128) = false := nb (k := 128) (fun e => ht ⟨c1, e⟩)
    subst c1
    go_enter Tryd.func14, Tryd.ntmps14
    go_wp2
    go_ret
    exact ⟨rfl, rfl⟩
  · have m : ((b1 : Int) == 128) = false := nb (k := 128) c1
    go_enter Tryd.func14, Tryd.ntmps14
    go_wp2
    go_ret
    exact ⟨rfl, rfl⟩

set_option maxHeartbeats 8000000 in
theorem walk_e2 (s : ByteArray) (i : Nat) (w : World) (hi : i < s.size) (hs : s.size ≤ 4194304) (h1 : i + 1 < s.size) (h : i + 2 < s.size) (b1 b2 : Nat) (e0 : s[i].toNat = 226) (e1 : (s[i + 1]'h1).toNat = b1) (e2 : (s[i + 2]'h).toNat = b2)
    (ht : ¬ (b1 = 128 ∧ ((128 ≤ b2 ∧ b2 ≤ 138) ∨ b2 = 168 ∨ b2 = 169 ∨ b2 = 175))) (ht2 : ¬ (b1 = 129 ∧ b2 = 159)) :
    Calls Tryd.prog 14 #[.string s, .int .i64 i] w fun e w' => e = .returned (.int .i64 0) ∧ w' = w := by
  by_cases c1 : b1 = 128
  · have m1 : ((b2 : Int) == 168) = false := nb (k := 168) (by omega)
    have m2 : ((b2 : Int) == 169) = false := nb (k := 169) (by omega)
    have m3 : ((b2 : Int) == 175) = false := nb (k := 175) (by omega)
    subst c1
    by_cases c2 : b2 < 128
    · have d1 : decide ((128 : Int) ≤ (b2 : Int)) = false := decide_eq_false (by omega)
      clear ht ht2
      go_enter Tryd.func14, Tryd.ntmps14
      go_wp2
      go_ret
      exact ⟨rfl, rfl⟩
    · have c3 : 138 < b2 := by omega
      have d1 : decide ((128 : Int) ≤ (b2 : Int)) = true := decide_eq_true (by omega)
      have d2 : decide ((b2 : Int) ≤ 138) = false := decide_eq_false (by omega)
      clear ht ht2
      go_enter Tryd.func14, Tryd.ntmps14
      go_wp2
      go_ret
      exact ⟨rfl, rfl⟩
  · have m : ((b1 : Int) == 128) = false := nb (k := 128) c1
    by_cases c2 : b1 = 129
    · have m2 : ((b2 : Int) == 159) = false := nb (k := 159) (fun e => ht2 ⟨c2, e⟩)
      subst c2
      clear ht ht2 m
      go_enter Tryd.func14, Tryd.ntmps14
      go_wp2
      go_ret
      exact ⟨rfl, rfl⟩
    · have m2 : ((b1 : Int) == 129) = false := nb (k := 129) c2
      clear ht ht2
      go_enter Tryd.func14, Tryd.ntmps14
      go_wp2
      go_ret
      exact ⟨rfl, rfl⟩

/-- THE CONTRACT OF spaceWidthB1. -/
theorem width_any (s : ByteArray) (i : Nat) (w : World) (hi : i < s.size) (hs : s.size ≤ 4194304) :
    Calls Tryd.prog 14 #[.string s, .int .i64 i] w fun e w' => e = .returned (.int .i64 (Lib.headSpace (s.data.toList.drop i) : Nat)) ∧ w' = w := by
  have e0 : s[i].toNat = (s.data.toList.getD i 0).toNat := by rw [byte_at s i hi]
  have e1 : ∀ h : i + 1 < s.size, (s[i + 1]'h).toNat = (s.data.toList.getD (i + 1) 0).toNat := fun h => by rw [byte_at s (i + 1) h]
  have e2 : ∀ h : i + 2 < s.size, (s[i + 2]'h).toNat = (s.data.toList.getD (i + 2) 0).toNat := fun h => by rw [byte_at s (i + 2) h]
  rw [head_at s i hi]
  generalize (s.data.toList.getD i 0).toNat = b at *
  generalize (s.data.toList.getD (i + 1) 0).toNat = b1 at *
  generalize (s.data.toList.getD (i + 2) 0).toNat = b2 at *
  by_cases hA : b = 32 ∨ b = 9 ∨ b = 10 ∨ b = 11 ∨ b = 12 ∨ b = 13
  · rw [swN, if_pos hA]
    exact walk_ascii s i w hi hs b e0 hA
  rw [swN, if_neg hA]
  by_cases hB : b = 194
  · subst hB
    rw [if_pos rfl]
    by_cases h1 : i + 1 < s.size
    · by_cases h2 : b1 = 133 ∨ b1 = 160
      · rw [if_pos ⟨by omega, h2⟩]
        exact walk_c2_yes s i w hi hs h1 b1 e0 (e1 h1) h2
      · rw [if_neg (fun h => h2 h.2)]
        exact walk_c2_no s i w hi hs h1 b1 e0 (e1 h1) (nb (k := 133) (fun e => h2 (.inl e))) (nb (k := 160) (fun e => h2 (.inr e)))
    · rw [if_neg (fun h => by omega)]
      exact walk_c2_end s i w hi hs (by omega) e0
  rw [if_neg hB]
  have n1 : ((b : Int) == 32) = false := nb (k := 32) (by omega)
  have n2 : ((b : Int) == 9) = false := nb (k := 9) (by omega)
  have n3 : ((b : Int) == 10) = false := nb (k := 10) (by omega)
  have n4 : ((b : Int) == 11) = false := nb (k := 11) (by omega)
  have n5 : ((b : Int) == 12) = false := nb (k := 12) (by omega)
  have n6 : ((b : Int) == 13) = false := nb (k := 13) (by omega)
  have n7 : ((b : Int) == 194) = false := nb (k := 194) hB
  by_cases hC : s.size - i ≤ 2
  · rw [if_pos hC]
    exact walk_short s i w hi hs b e0 n1 n2 n3 n4 n5 n6 n7 (by omega)
  rw [if_neg hC]
  have h1 : i + 1 < s.size := by omega
  have h2 : i + 2 < s.size := by omega
  by_cases ht : (b = 225 ∧ b1 = 154 ∧ b2 = 128) ∨ (b = 226 ∧ b1 = 128 ∧ ((128 ≤ b2 ∧ b2 ≤ 138) ∨ b2 = 168 ∨ b2 = 169 ∨ b2 = 175)) ∨ (b = 226 ∧ b1 = 129 ∧ b2 = 159) ∨ (b = 227 ∧ b1 = 128 ∧ b2 = 128)
  · rw [if_pos ht]
    exact walk_yes s i w hi hs h2 b b1 b2 e0 (e1 h1) (e2 h2) ht
  rw [if_neg ht]
  have ht' := ht
  by_cases c1 : b = 225
  · subst c1
    exact walk_e1 s i w hi hs h1 h2 b1 b2 e0 (e1 h1) (e2 h2) (fun h => ht' (.inl ⟨rfl, h⟩))
  by_cases c2 : b = 226
  · subst c2
    exact walk_e2 s i w hi hs h1 h2 b1 b2 e0 (e1 h1) (e2 h2) (fun h => ht' (.inr (.inl ⟨rfl, h⟩))) (fun h => ht' (.inr (.inr (.inl ⟨rfl, h⟩))))
  by_cases c3 : b = 227
  · subst c3
    exact walk_e3 s i w hi hs h1 h2 b1 b2 e0 (e1 h1) (e2 h2) (fun h => ht' (.inr (.inr (.inr ⟨rfl, h⟩))))
  exact walk_other s i w hi hs h1 h2 b e0 n1 n2 n3 n4 n5 n6 n7 (nb (k := 225) c1) (nb (k := 226) c2) (nb (k := 227) c3)

end Go.Proofs.Qxb6627834aDoor.spacew
