/-
  The plain layer under fieldsModelB1: the words by bytes, step by step: no Go in sight.
-/
import Derived.Test.Qxb6627834aDoorPlain
namespace Go.Proofs.Qxb6627834aDoor.pieces
open Go.Proofs.Qxb6627834aDoor.plain

/-- The words of l behind an open one, cur. -/
def F (cur l : List UInt8) : List (List UInt8) := Lib.fieldsGoU l.length cur l

theorem fuel (f : Nat) (cur l : List UInt8) (h : l.length ≤ f) : Lib.fieldsGoU f cur l = F cur l := by
  rw [Lib.fieldsGo_eq l.length f cur l (Nat.le_refl _) h, F, Lib.fieldsGo_eq l.length l.length cur l (Nat.le_refl _) (Nat.le_refl _)]

theorem F_nil (cur : List UInt8) : F cur [] = if cur = [] then [] else [cur] := by simp [F, Lib.fieldsGoU]
theorem F_non (cur : List UInt8) (b : UInt8) (t : List UInt8) (h : Lib.headSpace (b :: t) = 0) : F cur (b :: t) = F (cur ++ [b]) t := by
  rw [F, List.length_cons, Lib.fieldsGoU, if_pos h, fuel _ _ _ (Nat.le_refl _)]
theorem F_sp (cur : List UInt8) (b : UInt8) (t : List UInt8) (h : 0 < Lib.headSpace (b :: t)) : F cur (b :: t) = (if cur = [] then [] else [cur]) ++ F [] ((b :: t).drop (Lib.headSpace (b :: t))) := by
  rw [F, List.length_cons, Lib.fieldsGoU, if_neg (by omega), fuel]
  rw [List.length_drop, List.length_cons]; omega
theorem fieldsU_F (l : List UInt8) : Lib.fieldsU l = F [] l := by rw [Lib.fieldsU, fuel _ _ _ (by omega)]

/-- The open word: the bytes from its start up to i. -/
def cur (s : ByteArray) : Option Nat → Nat → List UInt8
  | none, _ => []
  | some a, i => (s.data.toList.drop a).take (i - a)
/-- 'start' as the Go text holds it. -/
def stV : Option Nat → Int
  | none => -1
  | some a => (a : Int)
/-- The open word begins ahead of i. -/
def StOk (st : Option Nat) (i : Nat) : Prop := ∀ a, st = some a → a < i
/-- What is gathered, with what is to come, is all. -/
def Inv (s : ByteArray) (i : Nat) (st : Option Nat) (acc : List ByteArray) : Prop :=
  acc ++ (F (cur s st i) (s.data.toList.drop i)).map (fun x => ⟨x.toArray⟩) = words s

theorem inv_start (s : ByteArray) : Inv s 0 none [] := by simp [Inv, cur, words, fieldsU_F]

theorem drop_at (s : ByteArray) (i : Nat) (h : i < s.size) : ∃ b t, s.data.toList.drop i = b :: t ∧ b = s.data.toList.getD i 0 ∧ t = s.data.toList.drop (i + 1) := by
  have h' : i < s.data.toList.length := by simpa using h
  refine ⟨s.data.toList[i], s.data.toList.drop (i + 1), List.drop_eq_getElem_cons h', ?_, rfl⟩
  rw [List.getD_eq_getElem?_getD, List.getElem?_eq_getElem h']; rfl

theorem piece_ne (s : ByteArray) (a i : Nat) (h : a < i) (hi : i ≤ s.size) : cur s (some a) i ≠ [] := by
  intro h0
  have := congrArg List.length h0
  rw [cur, List.length_take, List.length_drop, size_list] at this
  simp at this
  omega

theorem extract_piece (s : ByteArray) (a i : Nat) : (⟨(cur s (some a) i).toArray⟩ : ByteArray) = s.extract a i := by
  obtain ⟨⟨l⟩⟩ := s
  rw [ByteArray.extract_mk]
  simp [cur]

theorem inv_sp_open {s : ByteArray} {i a : Nat} {acc : List ByteArray} (hi : i < s.size) (ha : a < i) (hs : 0 < Lib.headSpace (s.data.toList.drop i)) (h : Inv s i (some a) acc) :
    Inv s (i + Lib.headSpace (s.data.toList.drop i)) none (acc ++ [s.extract a i]) := by
  obtain ⟨b, t, hd, _, _⟩ := drop_at s i hi
  unfold Inv at h ⊢
  rw [← h, ← List.drop_drop]
  rw [hd] at hs ⊢
  rw [F_sp _ _ _ hs, if_neg (piece_ne s a i ha (by omega)), cur, List.map_append, List.map_cons, List.map_nil, extract_piece, List.append_assoc]
theorem inv_sp {s : ByteArray} {i : Nat} {acc : List ByteArray} (hi : i < s.size) (hs : 0 < Lib.headSpace (s.data.toList.drop i)) (h : Inv s i none acc) :
    Inv s (i + Lib.headSpace (s.data.toList.drop i)) none acc := by
  obtain ⟨b, t, hd, _, _⟩ := drop_at s i hi
  unfold Inv at h ⊢
  rw [← h, ← List.drop_drop]
  rw [hd] at hs ⊢
  rw [F_sp _ _ _ hs]
  simp [cur]
theorem inv_non_open {s : ByteArray} {i a : Nat} {acc : List ByteArray} (hi : i < s.size) (ha : a < i) (hs : Lib.headSpace (s.data.toList.drop i) = 0) (h : Inv s i (some a) acc) :
    Inv s (i + 1) (some a) acc := by
  obtain ⟨b, t, hd, hb, ht⟩ := drop_at s i hi
  unfold Inv at h ⊢
  rw [← h, hd]
  rw [hd] at hs
  rw [F_non _ _ _ hs, ht]
  have e : cur s (some a) i ++ [b] = cur s (some a) (i + 1) := by
    have e1 : i + 1 - a = (i - a) + 1 := by omega
    rw [cur, cur, e1, List.take_add_one, List.getElem?_drop]
    have e2 : a + (i - a) = i := by omega
    rw [e2, hb, List.getElem?_eq_getElem (by simpa using hi), List.getD_eq_getElem?_getD, List.getElem?_eq_getElem (by simpa using hi)]
    rfl
  rw [e]
theorem inv_non {s : ByteArray} {i : Nat} {acc : List ByteArray} (hi : i < s.size) (hs : Lib.headSpace (s.data.toList.drop i) = 0) (h : Inv s i none acc) :
    Inv s (i + 1) (some i) acc := by
  obtain ⟨b, t, hd, hb, ht⟩ := drop_at s i hi
  unfold Inv at h ⊢
  rw [← h, hd]
  rw [hd] at hs
  rw [F_non _ _ _ hs, ht]
  have e : cur s none i ++ [b] = cur s (some i) (i + 1) := by
    rw [cur, cur, hd]
    have e1 : i + 1 - i = 1 := by omega
    rw [e1]; rfl
  rw [e]
theorem inv_end_open {s : ByteArray} {i a : Nat} {acc : List ByteArray} (hi : s.size ≤ i) (ha : a < s.size) (h : Inv s i (some a) acc) : acc ++ [s.extract a s.size] = words s := by
  unfold Inv at h
  have hd : s.data.toList.drop i = [] := List.drop_eq_nil_of_le (by simpa using hi)
  have hc : cur s (some a) i = cur s (some a) s.size := by
    rw [cur, cur, List.take_of_length_le (by rw [List.length_drop, size_list]; omega), List.take_of_length_le (by rw [List.length_drop, size_list]; omega)]
  rw [hd, hc, F_nil, if_neg (piece_ne s a s.size ha (Nat.le_refl _)), List.map_cons, List.map_nil, extract_piece] at h
  exact h
theorem inv_end {s : ByteArray} {i : Nat} {acc : List ByteArray} (hi : s.size ≤ i) (h : Inv s i none acc) : acc = words s := by
  unfold Inv at h
  have hd : s.data.toList.drop i = [] := List.drop_eq_nil_of_le (by simpa using hi)
  rw [hd, cur, F_nil, if_pos rfl] at h
  simpa using h
theorem inv_len {s : ByteArray} {i : Nat} {st : Option Nat} {acc : List ByteArray} (h : Inv s i st acc) : acc.length ≤ s.size + 2 := by
  have := congrArg List.length h
  rw [List.length_append] at this
  have := words_length_le s
  omega

end Go.Proofs.Qxb6627834aDoor.pieces
