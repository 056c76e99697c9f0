/-
  The width of the white-space character at the head of a list of bytes, as spaceWidthB1 reckons it: no Go in sight.
-/
import Derived.Lib.SpaceUEq
namespace Go.Proofs.Qxb6627834aDoor.width

/-- What spaceWidthB1 answers: n bytes are left, the first three are b, b1, b2. -/
def swN (n b b1 b2 : Nat) : Nat :=
  if b = 32 ∨ b = 9 ∨ b = 10 ∨ b = 11 ∨ b = 12 ∨ b = 13 then 1
  else if b = 194 then (if 1 < n ∧ (b1 = 133 ∨ b1 = 160) then 2 else 0)
  else if n ≤ 2 then 0
  else if (b = 225 ∧ b1 = 154 ∧ b2 = 128) ∨ (b = 226 ∧ b1 = 128 ∧ ((128 ≤ b2 ∧ b2 ≤ 138) ∨ b2 = 168 ∨ b2 = 169 ∨ b2 = 175)) ∨ (b = 226 ∧ b1 = 129 ∧ b2 = 159) ∨ (b = 227 ∧ b1 = 128 ∧ b2 = 128) then 3
  else 0

theorem beq_nat (a b : UInt8) : (a == b) = decide (a.toNat = b.toNat) := by
  rw [Bool.eq_iff_iff]; simp [UInt8.toNat_inj]

theorem swN_le (n b b1 b2 : Nat) (h : 0 < n) : swN n b b1 b2 ≤ n := by
  unfold swN
  repeat' split
  all_goals omega

def hs (qs : List (List UInt8)) (l : List UInt8) : Nat := ((qs.find? (·.isPrefixOf l)).map List.length).getD 0
theorem hs_nil (l : List UInt8) : hs [] l = 0 := rfl
theorem hs_cons (q : List UInt8) (qs : List (List UInt8)) (l : List UInt8) : hs (q :: qs) l = if q.isPrefixOf l = true then q.length else hs qs l := by
  unfold hs
  rw [List.find?_cons]
  cases h : q.isPrefixOf l <;> simp

theorem head1 (a : UInt8) : Lib.headSpace [a] = swN 1 a.toNat 0 0 := by
  show hs Lib.spaceSeqs [a] = _
  have h0 := a.toNat_lt
  simp only [Lib.spaceSeqs, hs_cons, hs_nil, List.isPrefixOf, Bool.and_true, Bool.and_false, Bool.false_eq_true, if_false, beq_nat, decide_eq_true_eq, UInt8.reduceToNat, List.length_cons, List.length_nil]
  generalize a.toNat = x at *
  unfold swN
  repeat' split
  all_goals omega
theorem head2 (a b : UInt8) : Lib.headSpace [a, b] = swN 2 a.toNat b.toNat 0 := by
  show hs Lib.spaceSeqs [a, b] = _
  have h0 := a.toNat_lt
  simp only [Lib.spaceSeqs, hs_cons, hs_nil, List.isPrefixOf, Bool.and_true, Bool.and_false, Bool.false_eq_true, if_false, Bool.and_eq_true, beq_nat, decide_eq_true_eq, UInt8.reduceToNat, List.length_cons, List.length_nil]
  generalize a.toNat = x at *
  generalize b.toNat = y at *
  unfold swN
  repeat' split
  all_goals omega
theorem ite_merge (p q : Prop) [Decidable p] [Decidable q] (k c : Nat) : (if p then k else if q then k else c) = if p ∨ q then k else c := by
  by_cases hp : p <;> by_cases hq : q <;> simp [hp, hq]
theorem ite_iff {p q : Prop} [Decidable p] [Decidable q] (h : p ↔ q) (a b : Nat) : (if p then a else b) = if q then a else b := by
  by_cases hp : p
  · rw [if_pos hp, if_pos (h.1 hp)]
  · rw [if_neg hp, if_neg (fun e => hp (h.2 e))]
theorem chain_z (z : Nat) : (128 = z ∨ 129 = z ∨ 130 = z ∨ 131 = z ∨ 132 = z ∨ 133 = z ∨ 134 = z ∨ 135 = z ∨ 136 = z ∨ 137 = z ∨ 138 = z ∨ 168 = z ∨ 169 = z ∨ 175 = z) ↔ ((128 ≤ z ∧ z ≤ 138) ∨ z = 168 ∨ z = 169 ∨ z = 175) := by omega

/-- The chain of the 25, over numbers. -/
def chain (x y z : Nat) : Nat :=
  if 9 = x ∨ 10 = x ∨ 11 = x ∨ 12 = x ∨ 13 = x ∨ 32 = x then 1
  else if 194 = x ∧ (133 = y ∨ 160 = y) then 2
  else if (225 = x ∧ 154 = y ∧ 128 = z) ∨ (226 = x ∧ 128 = y ∧ ((128 ≤ z ∧ z ≤ 138) ∨ z = 168 ∨ z = 169 ∨ z = 175)) ∨ (226 = x ∧ 129 = y ∧ 159 = z) ∨ (227 = x ∧ 128 = y ∧ 128 = z) then 3
  else 0

theorem chain_sw (n x y z : Nat) (hn : 3 ≤ n) : chain x y z = swN n x y z := by
  unfold chain swN
  have A : (9 = x ∨ 10 = x ∨ 11 = x ∨ 12 = x ∨ 13 = x ∨ 32 = x) ↔ (x = 32 ∨ x = 9 ∨ x = 10 ∨ x = 11 ∨ x = 12 ∨ x = 13) := by omega
  have B : ((225 = x ∧ 154 = y ∧ 128 = z) ∨ (226 = x ∧ 128 = y ∧ ((128 ≤ z ∧ z ≤ 138) ∨ z = 168 ∨ z = 169 ∨ z = 175)) ∨ (226 = x ∧ 129 = y ∧ 159 = z) ∨ (227 = x ∧ 128 = y ∧ 128 = z)) ↔
          ((x = 225 ∧ y = 154 ∧ z = 128) ∨ (x = 226 ∧ y = 128 ∧ ((128 ≤ z ∧ z ≤ 138) ∨ z = 168 ∨ z = 169 ∨ z = 175)) ∨ (x = 226 ∧ y = 129 ∧ z = 159) ∨ (x = 227 ∧ y = 128 ∧ z = 128)) := by
    rw [eq_comm (a := 225), eq_comm (a := 154), eq_comm (a := 128) (b := z), eq_comm (a := 226), eq_comm (a := 128) (b := y), eq_comm (a := 129), eq_comm (a := 159), eq_comm (a := 227)]
  have C : (194 = x ∧ (133 = y ∨ 160 = y)) ↔ (x = 194 ∧ (y = 133 ∨ y = 160)) := by omega
  rw [ite_iff A, ite_iff C, ite_iff B]
  have n2 : ¬ n ≤ 2 := by omega
  have n1 : 1 < n := by omega
  by_cases h : x = 194
  · subst h
    simp [n1]
  · simp [h, n2]

theorem and_or3 (a b c d : Prop) : ((a ∧ b ∧ c) ∨ (a ∧ b ∧ d)) ↔ (a ∧ b ∧ (c ∨ d)) := by
  constructor
  · rintro (⟨h1, h2, h3⟩ | ⟨h1, h2, h3⟩)
    · exact ⟨h1, h2, .inl h3⟩
    · exact ⟨h1, h2, .inr h3⟩
  · rintro ⟨h1, h2, h3 | h3⟩
    · exact .inl ⟨h1, h2, h3⟩
    · exact .inr ⟨h1, h2, h3⟩
theorem and_or4 (a b c d e : Prop) : ((a ∧ b ∧ c) ∨ (a ∧ b ∧ d) ∨ e) ↔ ((a ∧ b ∧ (c ∨ d)) ∨ e) := by rw [← or_assoc, and_or3]
theorem and_or2 (a b c : Prop) : ((a ∧ b) ∨ (a ∧ c)) ↔ (a ∧ (b ∨ c)) := and_or_left.symm

theorem head3 (a b c : UInt8) (t : List UInt8) : Lib.headSpace (a :: b :: c :: t) = swN (t.length + 3) a.toNat b.toNat c.toNat := by
  rw [← chain_sw _ _ _ _ (by omega)]
  show hs Lib.spaceSeqs (a :: b :: c :: t) = _
  simp only [Lib.spaceSeqs, hs_cons, hs_nil, List.isPrefixOf, Bool.and_true, Bool.and_eq_true, beq_nat, decide_eq_true_eq, UInt8.reduceToNat, List.length_cons, List.length_nil, ite_merge, and_or2, and_or4]
  unfold chain
  simp only [← chain_z]

theorem head_sw : ∀ (l : List UInt8), l ≠ [] → Lib.headSpace l = swN l.length (l.getD 0 0).toNat (l.getD 1 0).toNat (l.getD 2 0).toNat
  | [], h => absurd rfl h
  | [a], _ => head1 a
  | [a, b], _ => head2 a b
  | a :: b :: c :: t, _ => head3 a b c t

end Go.Proofs.Qxb6627834aDoor.width
