/-
  A slice of slices of strings that the call makes: what it holds, how it grows, that it stays; and the contract of argsModelB1 (function 7).
-/
import Derived.Test.Qxb6627834aDoorFields
namespace Go.Proofs.Qxb6627834aDoor.grid
open Go.RowKit Go.Proofs.Qxb6627834aDoor.plain Go.Proofs.Qxb6627834aDoor.fields Go.Proofs.Qxb6627834aDoor.rest
set_option linter.unusedVariables false

theorem Tryd.info22 : (Tryd.prog.info? 22).map (fun i => (i.zero, i.size, i.bytes)) = some (some (.slice none 0 0), 1, 24) := by kernel_rfl

theorem own_shape {w : World} {base : Nat} {e : TypeId} {size : Nat} {v : Value} {n : Nat} {xs : List Value} (h : w.ownsRow base e size v n xs) : ∃ ao c, v = .slice ao n c := by
  rcases h.2 with ⟨rfl, rfl⟩ | ⟨g, cap, cur, rfl, _⟩
  · exact ⟨_, _, rfl⟩
  · exact ⟨_, _, rfl⟩
theorem own_below {w w' : World} {base : Nat} {e : TypeId} {size : Nat} {v : Value} {n : Nat} {xs : List Value} (h : w.ownsRow base e size v n xs) (hb : Below w.heap.size w w') : w'.ownsRow base e size v n xs := by
  refine ⟨h.1, ?_⟩
  rcases h.2 with h2 | ⟨g, cap, cur, hv, hg, hh, r⟩
  · exact .inl h2
  · exact .inr ⟨g, cap, cur, hv, hg, by rw [hb.block g (lt_of_block hh)]; exact hh, r⟩
theorem own_base {w : World} {base base' : Nat} {e : TypeId} {size : Nat} {v : Value} {n : Nat} {xs : List Value} (h : w.ownsRow base e size v n xs) (hb : base' ≤ base) : w.ownsRow base' e size v n xs := by
  refine ⟨h.1, ?_⟩
  rcases h.2 with h2 | ⟨g, cap, cur, hv, hg, hh, r⟩
  · exact .inl h2
  · exact .inr ⟨g, cap, cur, hv, by omega, hh, r⟩

/-- A slice of the strings L in a row of its own. -/
def Inner (w : World) (x : Value) (L : List ByteArray) : Prop := ∃ base, w.ownsRow base 9 1 x L.length (L.map Value.string)
/-- A slice of such slices. -/
def Grid (w : World) (base : Nat) (v : Value) (LL : List (List ByteArray)) : Prop :=
  ∃ xs : List Value, xs.length = LL.length ∧ w.ownsRow base 22 1 v LL.length xs ∧ ∀ i, i < LL.length → Inner w (xs.getD i (.slice none 0 0)) (LL.getD i [])

theorem Inner.below {w w' : World} {x : Value} {L : List ByteArray} (h : Inner w x L) (hb : Below w.heap.size w w') : Inner w' x L := by
  obtain ⟨base, h⟩ := h
  exact ⟨base, own_below h hb⟩
theorem Grid.below {w w' : World} {base : Nat} {v : Value} {LL : List (List ByteArray)} (h : Grid w base v LL) (hb : Below w.heap.size w w') : Grid w' base v LL := by
  obtain ⟨xs, h1, h2, h3⟩ := h
  exact ⟨xs, h1, own_below h2 hb, fun i hi => (h3 i hi).below hb⟩
theorem Grid.nil (w : World) (base : Nat) : Grid w base (.slice none 0 0) [] := ⟨[], rfl, World.ownsRow_nil _ _ _ _, fun i hi => by simp at hi⟩
theorem Grid.shape {w : World} {base : Nat} {v : Value} {LL : List (List ByteArray)} (h : Grid w base v LL) : ∃ ao c, v = .slice ao LL.length c := by
  obtain ⟨xs, h1, h2, h3⟩ := h
  exact own_shape h2
theorem Grid.base {w : World} {base base' : Nat} {v : Value} {LL : List (List ByteArray)} (h : Grid w base v LL) (hb : base' ≤ base) : Grid w base' v LL := by
  obtain ⟨xs, h1, h2, h3⟩ := h
  exact ⟨xs, h1, own_base h2 hb, h3⟩

/-- Rows of two types are two rows. -/
theorem own_apart {w : World} {b1 b2 : Nat} {s1 s2 : Nat} {v x : Value} {n m : Nat} {xs ys : List Value} (h : w.ownsRow b1 9 s1 x n xs) (k : w.ownsRow b2 22 s2 v m ys) : x.ownBlock = none ∨ x.ownBlock ≠ v.ownBlock := by
  rcases h.2 with ⟨rfl, _⟩ | ⟨g, cap, cur, rfl, hg, hh, r⟩
  · exact .inl rfl
  · right
    rcases k.2 with ⟨rfl, _⟩ | ⟨g', cap', cur', rfl, hg', hh', r'⟩
    · simp [Value.ownBlock]
    · simp only [Value.ownBlock]
      intro e
      cases e
      rw [hh] at hh'
      simp at hh'

theorem inner_push {w w2 : World} {base : Nat} {v x y : Value} {n : Nat} {xs : List Value} {L : List ByteArray} {t : TypeId} (hx : Inner w x L) (hown : w.ownsRow base 22 1 v n xs) (hg : (w.alloc (.cells #[y] t)).grownBy w2 v.ownBlock) : Inner w2 x L := by
  obtain ⟨b', hx⟩ := hx
  exact ⟨b', (hx.alloc _).kept hg (own_apart hx hown)⟩

theorem grid_push {w w2 : World} {base : Nat} {v v' x : Value} {LL : List (List ByteArray)} {L : List ByteArray} {xs : List Value} {t : TypeId} (hxl : xs.length = LL.length) (hown : w.ownsRow base 22 1 v LL.length xs)
    (hin : ∀ i, i < LL.length → Inner w (xs.getD i (.slice none 0 0)) (LL.getD i [])) (hx : Inner w x L) (hown2 : w2.ownsRow base 22 1 v' (LL.length + 1) (xs ++ [x])) (hg : (w.alloc (.cells #[x] t)).grownBy w2 v.ownBlock) : Grid w2 base v' (LL ++ [L]) := by
  refine ⟨xs ++ [x], by simp [hxl], by simpa using hown2, fun i hi => ?_⟩
  rw [List.length_append, List.length_cons, List.length_nil] at hi
  by_cases e : i < LL.length
  · have h := inner_push (hin i e) hown hg
    have e1 : (xs ++ [x]).getD i (.slice none 0 0) = xs.getD i (.slice none 0 0) := by
      rw [List.getD_eq_getElem?_getD, List.getD_eq_getElem?_getD, List.getElem?_append_left (by omega)]
    have e2 : (LL ++ [L]).getD i [] = LL.getD i [] := by
      rw [List.getD_eq_getElem?_getD, List.getD_eq_getElem?_getD, List.getElem?_append_left e]
    rw [e1, e2]; exact h
  · have ei : i = LL.length := by omega
    have e1 : (xs ++ [x]).getD i (.slice none 0 0) = x := by
      rw [List.getD_eq_getElem?_getD, List.getElem?_append_right (by omega), ei, hxl]; simp
    have e2 : (LL ++ [L]).getD i [] = L := by
      rw [List.getD_eq_getElem?_getD, List.getElem?_append_right (by omega), ei]; simp
    rw [e1, e2]; exact inner_push hx hown hg

/-- WHAT IS TOLD OF A SLICE OF STRINGS: its cells, where there are any, lie in the world and hold L. -/
def Texts (w : World) (a : Option Addr) (L : List ByteArray) : Prop :=
  0 < L.length → ∃ b off, a = some ⟨b, off, none⟩ ∧ b < w.heap.size ∧ ∀ i, i < L.length → w.cell? ⟨b, off + i, none⟩ = some (.string (L.getD i ByteArray.empty))
theorem Texts.below {w w' : World} {a : Option Addr} {L : List ByteArray} (h : Texts w a L) (hb : Below w.heap.size w w') : Texts w' a L := by
  intro hl
  obtain ⟨b, off, ha, hlt, hc⟩ := h hl
  exact ⟨b, off, ha, Nat.lt_of_lt_of_le hlt hb.size, fun i hi => (hb.cell (p := ⟨b, off + i, none⟩) hlt).trans (hc i hi)⟩
def Small (L : List ByteArray) : Prop := ∀ i, i < L.length → (L.getD i ByteArray.empty).size ≤ 1048576

theorem take_snoc (L : List ByteArray) (k : Nat) (h : k < L.length) : L.take (k + 1) = L.take k ++ [L.getD k ByteArray.empty] := by
  rw [List.take_add_one, List.getD_eq_getElem?_getD, List.getElem?_eq_getElem h]; rfl
theorem slice_one (ao : Option Addr) (n c : Nat) : ∀ u ∈ [Value.slice ao n c], u.oneCell' = true := by
  intro u hu; simp at hu; subst hu; rfl

/-- The contract of fieldsModelB1, its value's shape seen. -/
theorem fields_shape (s : ByteArray) (w : World) (hs : s.size ≤ 4194304) :
    Calls Tryd.prog 12 #[.string s] w fun e w' => ∃ ao c, e = .returned (.slice ao (words s).length c) ∧ Inner w' (.slice ao (words s).length c) (words s) ∧ Below w.heap.size w w' := by
  refine (fields_any s w hs).mono fun e w' ⟨v, he, hown, hb⟩ => ?_
  obtain ⟨ao, c, rfl⟩ := own_shape hown
  exact ⟨ao, c, he, ⟨_, hown⟩, hb⟩

theorem restV_le (t name : ByteArray) (h : t.size ≤ 1048576) : (restV t name).size ≤ 1048576 := by
  unfold restV
  split
  · simp [tailB]; omega
  · exact Nat.zero_le _
theorem bdrew {B : Nat} {a w : World} (h : Below B a w) (n : Nat) : Below B a (w.drewN n) := h.trans ⟨rfl, rfl, rfl, Nat.le_refl _, fun _ _ => rfl⟩

set_option maxHeartbeats 4000000 in
set_option maxRecDepth 100000 in
/-- THE CONTRACT OF argsModelB1. -/
theorem model_any (a : Option Addr) (c : Nat) (L : List ByteArray) (name : ByteArray) (w : World) (hL : L.length ≤ 1048577) (hS : Small L) (hn : name.size ≤ 1048576) (hT : Texts w a L) :
    Calls Tryd.prog 7 #[.slice a L.length c, .string name] w fun e w' => ∃ v, e = .returned v ∧ Grid w' w.heap.size v (argsB name L) ∧ Below w.heap.size w w' := by
  obtain ⟨i0, hi, hz0, hz1, hz2⟩ := info_parts Tryd.info22
  go_enter Tryd.func7, Tryd.ntmps7
  go_wp2
  go_loopg [5, 6] L.length (fun g v x wr => ∃ k : Nat, k ≤ L.length ∧ g = L.length - k ∧ x = .int .i64 k ∧ Grid wr w.heap.size v (argsB name (L.take k)) ∧ Below w.heap.size w wr)
  case atStart => exact ⟨0, Nat.zero_le _, rfl, rfl, Grid.nil _ _, Below.refl _ _⟩
  case round =>
    obtain ⟨k, hk, rfl, rfl, hgrid, hbl⟩ := hrel
    by_cases hlt : k < L.length
    · obtain ⟨b, off, rfl, hb, hc⟩ := hT (by omega)
      have ck : wr.cell? ⟨b, off + k, none⟩ = some (.string (L.getD k ByteArray.empty)) := (hbl.cell (p := ⟨b, off + k, none⟩) hb).trans (hc k hlt)
      have hts := hS k hlt
      have hal := argsB_length_le name (L.take k)
      have hal2 : (L.take k).length ≤ k := List.length_take_le _ _
      have hsn := argsB_snoc name (L.take k) (L.getD k ByteArray.empty)
      rw [← take_snoc L k hlt] at hsn
      have HS := hsn
      clear hsn hc
      generalize L.getD k ByteArray.empty = t at *
      have hrl := restV_le t name hts
      have cR : Hid (∀ wx, Calls Tryd.prog 11 #[.string t, .string name] wx fun e w' => e = .returned (.tuple #[.string (restV t name), .bool (isDir t name)]) ∧ ∃ n, w' = wx.drewN n) := fun wx => rest_any t name wx hts hn
      cases hd : isDir t name with
      | false =>
        rw [hd] at HS
        have HS' : Hid (argsB name (L.take (k + 1)) = argsB name (L.take k)) := by simpa [Hid] using HS
        have cR' : Hid (∀ wx, Calls Tryd.prog 11 #[.string t, .string name] wx fun e w' => e = .returned (.tuple #[.string (restV t name), .bool false]) ∧ ∃ n, w' = wx.drewN n) := fun wx => by rw [← hd]; exact cR.out wx
        clear HS cR hd
        go_wp2_with (go_at_call 11; refine (cR'.out _).mono ?_; rintro e w1 ⟨rfl, n1, rfl⟩)
        go_roundg (L.length - (k + 1))
        case measure => omega
        case rel => exact ⟨k + 1, by omega, rfl, by go_num, by rw [HS'.out]; exact hgrid.below (bdrew (Below.refl _ _) _), bdrew hbl _⟩
      | true =>
        rw [hd] at HS
        have HS' : Hid (argsB name (L.take (k + 1)) = argsB name (L.take k) ++ [words (restV t name)]) := by simpa [Hid] using HS
        have cR' : Hid (∀ wx, Calls Tryd.prog 11 #[.string t, .string name] wx fun e w' => e = .returned (.tuple #[.string (restV t name), .bool true]) ∧ ∃ n, w' = wx.drewN n) := fun wx => by rw [← hd]; exact cR.out wx
        clear HS cR hd
        generalize argsB name (L.take k) = LL at *
        go_wp2_with (go_at_call 11; refine (cR'.out _).mono ?_; rintro e w1 ⟨rfl, n1, rfl⟩)
        have hg1 := hgrid.below (bdrew (Below.refl _ _) n1)
        have hb1 := bdrew hbl n1
        clear hgrid hbl ck
        generalize wr.drewN n1 = w1 at *
        refine (fields_shape (restV t name) _ (by omega)).mono ?_
        rintro e w2 ⟨ao, c2, rfl, hin, hb2⟩
        obtain ⟨xs, hxl, hown, hinn⟩ := hg1.below hb2
        have hbl2 := hb1.trans (hb2.mono hb1.size)
        clear hg1 hb1 hb2
        generalize words (restV t name) = W at *
        go_wp2_with (at_builtin; refine wpList_append_own _ rfl (.tmp 25) (.tmp 28) 24 rfl w.heap.size 22 i0 (.slice none 0 0) 1 24 Tryd.underlying24 hi hz0 hz1 hz2 rfl (by decide) _ _ _ rfl (hown.alloc _) ⟨_, 0, none⟩ 1 1 [.slice ao W.length c2] rfl rfl (one_cell _ _ _) (slice_one _ _ _) (by unfold maxLen; omega) (by omega) (by have := hbl2.size; simp; omega) ?_; intro v' w3 hown3 hgrow3 _)
        have hbl3 := below_append hbl2 hbl2.size hown hgrow3
        have hg3 := grid_push hxl hown hinn hin hown3 hgrow3
        clear hown3 hgrow3
        go_roundg (L.length - (k + 1))
        case measure => omega
        case rel => exact ⟨k + 1, by omega, rfl, by go_num, by rw [HS'.out]; exact hg3, hbl3⟩
    · have e : Hid (L.take k = L) := List.take_of_length_le (by omega)
      have kb : decide (k < L.length) = false := decide_eq_false hlt
      go_wp2
      go_ret
      exact ⟨_, rfl, by rw [e.out] at hgrid; exact hgrid, hbl⟩

end Go.Proofs.Qxb6627834aDoor.grid
