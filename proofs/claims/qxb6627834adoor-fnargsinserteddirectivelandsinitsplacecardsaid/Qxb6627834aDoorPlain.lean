/-
  The plain functions of the two laws on directive.Args: no Go in sight.
-/
import Derived.Lib.SpaceUEq
namespace Go.Proofs.Qxb6627834aDoor.plain

/-- The bytes of the fixed lead. -/
def leadB : ByteArray := ⟨#[47, 47, 99, 97, 115, 101, 102, 117, 108, 58]⟩

/-- The bytes of s from n on. -/
def tailB (s : ByteArray) (n : Nat) : ByteArray := s.extract n s.size

/-- Is t the directive of this name? -/
def isDir (t name : ByteArray) : Bool := (leadB.data.toList ++ name.data.toList).isPrefixOf t.data.toList && (t.size == 10 + name.size || t.data.toList.getD (10 + name.size) 0 == 32)

/-- What follows it. -/
def restV (t name : ByteArray) : ByteArray := if isDir t name then tailB t (10 + name.size) else ByteArray.empty

/-- The words of s. -/
def words (s : ByteArray) : List ByteArray := (Lib.fieldsU s.data.toList).map fun x => ⟨x.toArray⟩

/-- One entry a directive among the texts. -/
def argsB (name : ByteArray) : List ByteArray → List (List ByteArray)
  | [] => []
  | t :: ts => (if isDir t name then [words (restV t name)] else []) ++ argsB name ts

theorem argsB_append (name : ByteArray) : ∀ a b : List ByteArray, argsB name (a ++ b) = argsB name a ++ argsB name b
  | [], b => rfl
  | t :: a, b => by simp [argsB, argsB_append name a b]

theorem argsB_snoc (name : ByteArray) (a : List ByteArray) (t : ByteArray) : argsB name (a ++ [t]) = argsB name a ++ (if isDir t name then [words (restV t name)] else []) := by
  rw [argsB_append]; simp [argsB]

theorem argsB_length_le (name : ByteArray) : ∀ a : List ByteArray, (argsB name a).length ≤ a.length
  | [] => Nat.le_refl _
  | t :: a => by
    have := argsB_length_le name a
    simp only [argsB, List.length_append, List.length_cons]
    split <;> simp <;> omega

theorem fieldsGoU_length : ∀ (f : Nat) (cur l : List UInt8), (Lib.fieldsGoU f cur l).length ≤ f + 1
  | 0, cur, l => by simp only [Lib.fieldsGoU]; split <;> simp
  | f + 1, cur, [] => by simp only [Lib.fieldsGoU]; split <;> simp
  | f + 1, cur, b :: t => by
    simp only [Lib.fieldsGoU]
    split
    · have := fieldsGoU_length f (cur ++ [b]) t; omega
    · have := fieldsGoU_length f [] ((b :: t).drop (Lib.headSpace (b :: t)))
      split <;> simp <;> omega

theorem words_length_le (s : ByteArray) : (words s).length ≤ s.size + 2 := by
  have := fieldsGoU_length (s.data.toList.length + 1) [] s.data.toList
  simp only [words, Lib.fieldsU, List.length_map]
  have e : s.data.toList.length = s.size := by simp
  omega

theorem prefix_iff : ∀ p l : List UInt8, p.isPrefixOf l = true ↔ p.length ≤ l.length ∧ ∀ j, j < p.length → l.getD j 0 = p.getD j 0
  | [], l => by simp
  | a :: p, [] => by simp
  | a :: p, b :: l => by
    have ih := prefix_iff p l
    simp only [List.isPrefixOf, Bool.and_eq_true, beq_iff_eq, ih, List.length_cons]
    constructor
    · rintro ⟨rfl, h1, h2⟩
      refine ⟨by omega, fun j hj => ?_⟩
      cases j with
      | zero => rfl
      | succ j => simpa using h2 j (by omega)
    · rintro ⟨h1, h2⟩
      refine ⟨by simpa using (h2 0 (by omega)).symm, by omega, fun j hj => ?_⟩
      simpa using h2 (j + 1) (by omega)

theorem getD_app1 (a b : List UInt8) (j : Nat) (h : j < a.length) : (a ++ b).getD j 0 = a.getD j 0 := by
  rw [List.getD_eq_getElem?_getD, List.getD_eq_getElem?_getD, List.getElem?_append_left h]
theorem getD_app2 (a b : List UInt8) (j : Nat) (h : a.length ≤ j) : (a ++ b).getD j 0 = b.getD (j - a.length) 0 := by
  rw [List.getD_eq_getElem?_getD, List.getD_eq_getElem?_getD, List.getElem?_append_right h]

theorem lead_length : leadB.data.toList.length = 10 := rfl
theorem size_list (s : ByteArray) : s.data.toList.length = s.size := by simp

theorem dir_prefix (t name : ByteArray) : (leadB.data.toList ++ name.data.toList).isPrefixOf t.data.toList = true ↔
    10 + name.size ≤ t.size ∧ (∀ j, j < 10 → t.data.toList.getD j 0 = leadB.data.toList.getD j 0) ∧ (∀ j, j < name.size → t.data.toList.getD (10 + j) 0 = name.data.toList.getD j 0) := by
  rw [prefix_iff, List.length_append, lead_length, size_list, size_list]
  constructor
  · rintro ⟨h1, h2⟩
    refine ⟨h1, fun j hj => ?_, fun j hj => ?_⟩
    · rw [h2 j (by omega), getD_app1 _ _ _ (by rw [lead_length]; exact hj)]
    · rw [h2 (10 + j) (by omega), getD_app2 _ _ _ (by rw [lead_length]; omega), lead_length]
      simp
  · rintro ⟨h1, h2, h3⟩
    refine ⟨h1, fun j hj => ?_⟩
    by_cases e : j < 10
    · rw [h2 j e, getD_app1 _ _ _ (by rw [lead_length]; exact e)]
    · have := h3 (j - 10) (by omega)
      rw [show 10 + (j - 10) = j by omega] at this
      rw [this, getD_app2 _ _ _ (by rw [lead_length]; omega), lead_length]

theorem isDir_short {t name : ByteArray} (h : t.size < 10 + name.size) : isDir t name = false := by
  cases hp : (leadB.data.toList ++ name.data.toList).isPrefixOf t.data.toList with
  | false => simp [isDir, hp]
  | true => have := ((dir_prefix t name).1 hp).1; omega
theorem isDir_no1 {t name : ByteArray} {k : Nat} (hk : k < 10) (h : t.data.toList.getD k 0 ≠ leadB.data.toList.getD k 0) : isDir t name = false := by
  cases hp : (leadB.data.toList ++ name.data.toList).isPrefixOf t.data.toList with
  | false => simp [isDir, hp]
  | true => exact absurd (((dir_prefix t name).1 hp).2.1 k hk) h
theorem isDir_no2 {t name : ByteArray} {k : Nat} (hk : k < name.size) (h : t.data.toList.getD (10 + k) 0 ≠ name.data.toList.getD k 0) : isDir t name = false := by
  cases hp : (leadB.data.toList ++ name.data.toList).isPrefixOf t.data.toList with
  | false => simp [isDir, hp]
  | true => exact absurd (((dir_prefix t name).1 hp).2.2 k hk) h
theorem isDir_no3 {t name : ByteArray} (hk : 10 + name.size < t.size) (h : t.data.toList.getD (10 + name.size) 0 ≠ 32) : isDir t name = false := by
  have e : (t.size == 10 + name.size) = false := by rw [beq_eq_false_iff_ne]; omega
  have e2 : (t.data.toList.getD (10 + name.size) 0 == 32) = false := by rw [beq_eq_false_iff_ne]; exact h
  unfold isDir
  rw [e, e2]; simp
theorem isDir_yes {t name : ByteArray} (h1 : 10 + name.size ≤ t.size) (h2 : ∀ j, j < 10 → t.data.toList.getD j 0 = leadB.data.toList.getD j 0) (h3 : ∀ j, j < name.size → t.data.toList.getD (10 + j) 0 = name.data.toList.getD j 0)
    (h4 : 10 + name.size < t.size → t.data.toList.getD (10 + name.size) 0 = 32) : isDir t name = true := by
  unfold isDir
  rw [(dir_prefix t name).2 ⟨h1, h2, h3⟩]
  by_cases e : t.size = 10 + name.size
  · rw [beq_iff_eq.2 e]; rfl
  · rw [beq_iff_eq.2 (h4 (by omega))]; simp

theorem byte_at (s : ByteArray) (k : Nat) (h : k < s.size) : s.data.toList.getD k 0 = s[k] := by
  rw [List.getD_eq_getElem?_getD, List.getElem?_eq_getElem (by simpa using h)]
  rfl
theorem byte_ne {a b : UInt8} (h : ((a.toNat : Int) != (b.toNat : Int)) = true) : a ≠ b := by
  intro e; subst e; simp at h
theorem byte_eq {a b : UInt8} (h : ((a.toNat : Int) != (b.toNat : Int)) = false) : a = b := by
  rw [bne_eq_false_iff_eq] at h
  exact UInt8.toNat_inj.1 (by omega)

end Go.Proofs.Qxb6627834aDoor.plain
