/-
  The contracts of fromsBelow (function 6) and toProject (8).
-/
import Derived.Test.Qxb6627878aProg
import Derived.Test.Qxb6627878aPlain
import Derived.WalkKit
import Derived.Below
import Derived.OneCell
import Derived.RegionTactic
import Derived.Deep.QuietTactic
import Derived.BigQuiet
import Derived.BigRegion
import Derived.Outline
import Derived.WalkSmall
import Derived.WalkLawsBesides
import Derived.WalkSpells
import Derived.Deep.LoopGhost
import Derived.Deep.OwnRows
import Derived.Laws.CopyOwn
namespace Go.Proofs.Qxb6627878a.leaf
open Go.RowKit Go.Proofs.Qxb6627878a.plain
set_option linter.unusedVariables false

/-- WHAT IS TOLD OF A SLICE OF EDGES: its cells, where there are any, lie in the world and hold es. -/
def Edges (w : World) (a : Option Addr) (es : List (Int × Int)) : Prop :=
  0 < es.length → ∃ b off, a = some ⟨b, off, none⟩ ∧ b < w.heap.size ∧ ∀ i, i < es.length → w.cell? ⟨b, off + i * 2, none⟩ = some (.int .i32 (es.getD i (0, 0)).1) ∧ w.cell? ⟨b, off + i * 2 + 1, none⟩ = some (.int .i32 (es.getD i (0, 0)).2)
theorem Edges.below {w w' : World} {a : Option Addr} {es : List (Int × Int)} (h : Edges w a es) (hb : Below w.heap.size w w') : Edges w' a es := by
  intro hl
  obtain ⟨b, off, ha, hlt, hc⟩ := h hl
  exact ⟨b, off, ha, Nat.lt_of_lt_of_le hlt hb.size, fun i hi => ⟨(hb.cell (p := ⟨b, off + i * 2, none⟩) hlt).trans (hc i hi).1, (hb.cell (p := ⟨b, off + i * 2 + 1, none⟩) hlt).trans (hc i hi).2⟩⟩
/-- Every number fits its kind. -/
def Fits (es : List (Int × Int)) : Prop := ∀ i, i < es.length → (-2147483648 ≤ (es.getD i (0, 0)).1 ∧ (es.getD i (0, 0)).1 ≤ 2147483647) ∧ (-2147483648 ≤ (es.getD i (0, 0)).2 ∧ (es.getD i (0, 0)).2 ≤ 2147483647)
set_option maxHeartbeats 2000000 in
theorem froms (n : Nat) (a : Option Addr) (c : Nat) (es : List (Int × Int)) (w : World) (hn : n ≤ 65536) (hl : es.length ≤ 65536) (hF : Fits es) (hE : Edges w a es) :
    Calls Try.prog 6 #[.int .i64 n, .slice a es.length c] w fun e w' => ∃ b : Bool, e = .returned (.bool b) ∧ w' = w ∧ (b = true → In n es) := by
  go_enter Try.func6, Try.ntmps6
  go_wp2
  go_loopg [5] es.length (fun g x wr => ∃ j : Nat, j ≤ es.length ∧ g = es.length - j ∧ x = .int .i64 j ∧ w = wr ∧ Hid (∀ i, i < j → 0 ≤ (es.getD i (0, 0)).1 ∧ (es.getD i (0, 0)).1 < n))
  case atStart => exact ⟨0, Nat.zero_le _, rfl, rfl, rfl, fun i hi => by omega⟩
  case round =>
    obtain ⟨j, hj, rfl, rfl, rfl, hin⟩ := hrel
    by_cases hlt : j < es.length
    · obtain ⟨b, off, rfl, hb, hc⟩ := hE (by omega)
      obtain ⟨cf, _⟩ := hc j hlt
      obtain ⟨f1, _⟩ := hF j hlt
      clear hc
      obtain ⟨f, hfe⟩ : ∃ f, (es.getD j (0, 0)).1 = f := ⟨_, rfl⟩
      rw [hfe] at cf f1
      have hstep : Hid (0 ≤ f → f < n → ∀ i, i < j + 1 → 0 ≤ (es.getD i (0, 0)).1 ∧ (es.getD i (0, 0)).1 < n) := by
        intro g1 g2 i hi
        by_cases e : i = j
        · rw [e, hfe]; exact ⟨g1, g2⟩
        · exact hin.out i (by omega)
      clear hfe hin
      by_cases h0 : f < 0
      · have b1 : decide (f < 0) = true := decide_eq_true h0
        go_wp2
        go_ret
        exact ⟨false, rfl, rfl, fun h => by cases h⟩
      · have b1 : decide (f < 0) = false := decide_eq_false h0
        by_cases h1 : f < n
        · have b2 : decide ((n : Int) ≤ f) = false := decide_eq_false (by omega)
          go_wp2
          go_roundg (es.length - (j + 1))
          case measure => omega
          case rel => exact ⟨j + 1, by omega, rfl, by go_num, rfl, hstep.out (by omega) h1⟩
        · have b2 : decide ((n : Int) ≤ f) = true := decide_eq_true (by omega)
          go_wp2
          go_ret
          first | exact ⟨false, rfl, rfl, fun h => by cases h⟩ | exact .inl ⟨rfl, rfl⟩
    · have jb : decide (j < es.length) = false := decide_eq_false hlt
      have fin : Hid (In n es) := fun i hi => hin.out i (by omega)
      clear hin
      go_wp2
      go_ret
      exact ⟨true, rfl, rfl, fun _ => fin.out⟩

theorem Try.info36 : (Try.prog.info? 36).map (fun i => (i.zero, i.size, i.bytes)) = some (some (.agg #[.int .i32 0, .int .i32 0]), 2, 8) := by kernel_rfl
theorem Try.info33 : (Try.prog.info? 33).map (fun i => (i.zero, i.size, i.bytes)) = some (some (.agg #[.int .i32 0, .int .i32 0]), 2, 8) := by kernel_rfl
theorem Try.info21 : (Try.prog.info? 21).map (fun i => (i.zero, i.size, i.bytes)) = some (some (.int .i32 0), 1, 4) := by kernel_rfl

/-- Cell c of a row of edges. -/
def cellE (f : Nat → Int × Int) (c : Nat) : Value := if c % 2 = 0 then .int .i32 (f (c / 2)).1 else .int .i32 (f (c / 2)).2
/-- Block b is a row of m edges of type t, edge i being f i. -/
def ERow (w : World) (b : Nat) (t : TypeId) (m : Nat) (f : Nat → Int × Int) : Prop := w.rowIs b t (m * 2) (cellE f)

theorem ERow.c0 {w : World} {b : Nat} {t : TypeId} {m : Nat} {f : Nat → Int × Int} (h : ERow w b t m f) {i : Nat} (hi : i < m) : w.cell? ⟨b, i * 2, none⟩ = some (.int .i32 (f i).1) := by
  have := World.rowIs.cell h (i := i * 2) (by omega)
  rw [this, cellE, if_pos (by omega), show i * 2 / 2 = i by omega]
theorem ERow.c1 {w : World} {b : Nat} {t : TypeId} {m : Nat} {f : Nat → Int × Int} (h : ERow w b t m f) {i : Nat} (hi : i < m) : w.cell? ⟨b, i * 2 + 1, none⟩ = some (.int .i32 (f i).2) := by
  have := World.rowIs.cell h (i := i * 2 + 1) (by omega)
  rw [this, cellE, if_neg (by omega), show (i * 2 + 1) / 2 = i by omega]
theorem ERow.fz {w : World} {b : Nat} {t : TypeId} {m : Nat} {f : Nat → Int × Int} (h : ERow w b t m f) (c : Nat) : w.frozen? ⟨b, c, none⟩ = false := World.rowIs.frozen h c
theorem ERow.lt {w : World} {b : Nat} {t : TypeId} {m : Nat} {f : Nat → Int × Int} (h : ERow w b t m f) : b < w.heap.size := World.rowIs.lt h
theorem ERow.congr {w : World} {b : Nat} {t : TypeId} {m : Nat} {f g : Nat → Int × Int} (h : ERow w b t m f) (e : ∀ i, i < m → f i = g i) : ERow w b t m g :=
  World.rowIs.congr h fun c hc => by unfold cellE; rw [e (c / 2) (by omega)]
theorem ERow.of_block {w w' : World} {b : Nat} {t : TypeId} {m : Nat} {f : Nat → Int × Int} (h : ERow w b t m f) (e : w'.heap[b]? = w.heap[b]?) : ERow w' b t m f := World.rowIs.of_block h e
/-- A store of both cells of edge i. -/
theorem ERow.set {w : World} {b : Nat} {t : TypeId} {m : Nat} {f : Nat → Int × Int} (h : ERow w b t m f) (i : Nat) (x y : Int) : ERow ((w.setCell ⟨b, i * 2, none⟩ (.int .i32 x)).setCell ⟨b, i * 2 + 1, none⟩ (.int .i32 y)) b t m (fun j => if j = i then (x, y) else f j) := by
  have h2 := (World.rowIs.set h (i * 2) (.int .i32 x)).set (i * 2 + 1) (.int .i32 y)
  refine h2.congr fun c hc => ?_
  unfold cellE
  by_cases e1 : c = i * 2 + 1
  · subst e1
    rw [if_pos rfl, if_neg (by omega), show (i * 2 + 1) / 2 = i by omega]
    simp
  · rw [if_neg e1]
    by_cases e2 : c = i * 2
    · subst e2
      rw [if_pos rfl, if_pos (by omega), show i * 2 / 2 = i by omega]
      simp
    · have e3 : ¬ c / 2 = i := by omega
      simp only [if_neg e2, if_neg e3]

/-- What make has laid. -/
theorem erow_made {w : World} {base g n : Nat} {t : TypeId} (h : w.ownsRow base t 2 (.slice (some ⟨g, 0, none⟩) n n) n (madeCells (Value.agg #[.int .i32 0, .int .i32 0]).cells (n * 2)).toList) : ERow w g t n (fun _ => (0, 0)) := by
  rcases h.2 with ⟨h', _⟩ | ⟨g', cap, cur, h', _, hh, _, _, hs, ht⟩
  · simp at h'
  · simp only [Value.slice.injEq, Option.some.injEq, Addr.mk.injEq, and_true, true_and] at h'
    obtain ⟨rfl, rfl⟩ := h'
    refine ⟨cur, hh, hs, fun i hi => ?_⟩
    have e : cur.toList = (madeCells (Value.agg #[.int .i32 0, .int .i32 0]).cells (n * 2)).toList := by
      rw [← ht, List.take_of_length_le (by simpa using Nat.le_of_eq hs)]
    rw [← Array.getElem?_toList, e, Array.getElem?_toList]
    simp only [madeCells, Value.cells, Array.getElem?_map, Array.getElem?_range]
    rw [if_pos hi]
    unfold cellE
    by_cases e2 : i % 2 = 0
    · rw [if_pos e2]; simp [e2]
    · have e3 : i % 2 = 1 := by omega
      rw [if_neg e2]; simp [e3]
theorem irow_made {w : World} {base g n : Nat} (h : w.ownsRow base 21 1 (.slice (some ⟨g, 0, none⟩) n n) n (madeCells (Value.int .i32 0).cells (n * 1)).toList) : w.rowIs g 21 n (fun _ => .int .i32 0) := by
  rcases h.2 with ⟨h', _⟩ | ⟨g', cap, cur, h', _, hh, _, _, hs, ht⟩
  · simp at h'
  · simp only [Value.slice.injEq, Option.some.injEq, Addr.mk.injEq, and_true, true_and] at h'
    obtain ⟨rfl, rfl⟩ := h'
    refine ⟨cur, hh, by simpa using hs, fun i hi => ?_⟩
    have e : cur.toList = (madeCells (Value.int .i32 0).cells (n * 1)).toList := by
      rw [← ht, List.take_of_length_le (by simpa using Nat.le_of_eq hs)]
    rw [← Array.getElem?_toList, e, Array.getElem?_toList]
    simp [madeCells, Value.cells, hi, Nat.mod_one]

/-- An own row, told as a slice. -/
theorem edges_of {w : World} {b : Nat} {t : TypeId} {es : List (Int × Int)} (h : ERow w b t es.length (fun i => es.getD i (0, 0))) : Edges w (some ⟨b, 0, none⟩) es := by
  intro hp
  refine ⟨b, 0, rfl, h.lt, fun i hi => ?_⟩
  rw [Nat.zero_add]
  exact ⟨h.c0 hi, h.c1 hi⟩

set_option maxHeartbeats 2000000 in
set_option maxRecDepth 100000 in
theorem toProject_some (x : Addr) (c : Nat) (es : List (Int × Int)) (w : World) (hl : es.length ≤ 65536) (hE : Edges w (some x) es) :
    Calls Try.prog 8 #[.slice (some x) es.length c] w fun e w' => ∃ ao cc, e = .returned (.slice ao es.length cc) ∧ Edges w' ao es ∧ Below w.heap.size w w' := by
  obtain ⟨i0, hi, hz0, hz1, hz2⟩ := info_parts Try.info36
  have qs : ∀ (w : World) (a : Addr) (l c : Nat), (binOp .eql 22 (.slice (some a) l c) (.slice none 0 0)).run Try.prog w = .ok (.bool false) w := fun w a l c => by
    simpa using Lib.run_eql_slice_nil (P := Try.prog) w 22 33 (some a) l c 0 0 Try.underlying22
  go_enter Try.func8, Try.ntmps8
  go_wp2_with (at_make; refine wpList_make_full _ rfl _ _ 28 rfl w.heap.size 36 i0 (.agg #[.int .i32 0, .int .i32 0]) 2 Try.underlying28 hi hz0 hz1 _ _ _ _ es.length rfl rfl rfl rfl (by rw [hz2]; omega) (by unfold maxLen; omega) (Nat.le_refl _) ?_; intro w2 hown2 hgrow2)
  have hr2 := erow_made hown2
  have hb2 := (Below.refl w.heap.size w).grown hgrow2 (Nat.le_refl _) (fun k h => by cases h)
  clear hown2 hgrow2 qs
  go_loopg [4] es.length (fun g y wr => ∃ j : Nat, j ≤ es.length ∧ g = es.length - j ∧ y = .int .i64 j ∧ ERow wr w.heap.size 36 es.length (fun i => if i < j then es.getD i (0, 0) else (0, 0)) ∧ Below w.heap.size w wr)
  case atStart => exact ⟨0, Nat.zero_le _, rfl, rfl, hr2.congr (fun i _ => by rw [if_neg (by omega)]), hb2⟩
  case round =>
    clear hr2 hb2
    obtain ⟨j, hj, rfl, rfl, hr, hbl⟩ := hrel
    by_cases hlt : j < es.length
    · obtain ⟨b, off, hx, hb, hc⟩ := hE (by omega)
      cases hx
      have cf : wr.cell? ⟨b, off + j * 2, none⟩ = some (.int .i32 (es.getD j (0, 0)).1) := (hbl.cell (p := ⟨b, off + j * 2, none⟩) hb).trans (hc j hlt).1
      have ct : wr.cell? ⟨b, off + j * 2 + 1, none⟩ = some (.int .i32 (es.getD j (0, 0)).2) := (hbl.cell (p := ⟨b, off + j * 2 + 1, none⟩) hb).trans (hc j hlt).2
      have d0 := hr.c0 hlt
      have d1 := hr.c1 hlt
      have z0 := hr.fz (j * 2)
      have z1 := hr.fz (j * 2 + 1)
      simp only [Nat.lt_irrefl, if_false] at d0 d1
      have hnx := hr.set j (es.getD j (0, 0)).1 (es.getD j (0, 0)).2
      have hlz : (j : Int) < (es.length : Int) := by omega
      clear hc
      have HP : Hid ((es.getD j (0, 0)) = ((es.getD j (0, 0)).1, (es.getD j (0, 0)).2)) := rfl
      generalize (es.getD j (0, 0)).1 = f at *
      generalize (es.getD j (0, 0)).2 = t at *
      have hnx' : ERow ((wr.setCell ⟨w.heap.size, j * 2, none⟩ (.int .i32 f)).setCell ⟨w.heap.size, j * 2 + 1, none⟩ (.int .i32 t)).drew w.heap.size 36 es.length (fun i => if i < j + 1 then es.getD i (0, 0) else (0, 0)) := by
        refine World.rowIs.drew (hnx.congr fun i hi => ?_)
        by_cases e : i = j
        · subst e; rw [if_pos rfl, if_pos (by omega), HP.out]
        · rw [if_neg e]
          by_cases e2 : i < j
          · rw [if_pos e2, if_pos (by omega)]
          · rw [if_neg e2, if_neg (by omega)]
      have hbx : Below w.heap.size w ((wr.setCell ⟨w.heap.size, j * 2, none⟩ (.int .i32 f)).setCell ⟨w.heap.size, j * 2 + 1, none⟩ (.int .i32 t)).drew := ((hbl.setCell (Nat.le_refl _) _).setCell (Nat.le_refl _) _).drew
      clear hnx
      go_wp2
      go_region
      all_goals
        go_wp2
        go_roundg (es.length - (j + 1))
        case measure => omega
        case rel => exact ⟨j + 1, by omega, rfl, by go_num, hnx', hbx⟩
    · have jb : decide (j < es.length) = false := decide_eq_false hlt
      have hf : Hid (Edges wr (some ⟨w.heap.size, 0, none⟩) es) := edges_of (hr.congr fun i hi => by rw [if_pos (by omega)])
      clear hr
      go_wp2
      go_ret
      exact ⟨_, _, rfl, hf.out, hbl⟩

theorem toProject_nil (c : Nat) (w : World) : Calls Try.prog 8 #[.slice none 0 c] w fun e w' => e = .returned (.slice none 0 0) ∧ w' = w := by
  have qn : ∀ (w : World) (l c : Nat), (binOp .eql 22 (.slice none l c) (.slice none 0 0)).run Try.prog w = .ok (.bool true) w := fun w l c => by
    simpa using Lib.run_eql_slice_nil (P := Try.prog) w 22 33 none l c 0 0 Try.underlying22
  go_enter Try.func8, Try.ntmps8
  go_wp2
  go_ret
  exact ⟨rfl, rfl⟩

/-- THE CONTRACT OF toProject. -/
theorem toProject_any (a : Option Addr) (c : Nat) (es : List (Int × Int)) (w : World) (hl : es.length ≤ 65536) (hn : a = none → es = []) (hE : Edges w a es) :
    Calls Try.prog 8 #[.slice a es.length c] w fun e w' => ∃ ao cc, e = .returned (.slice ao es.length cc) ∧ Edges w' ao es ∧ Below w.heap.size w w' := by
  cases a with
  | some x => exact toProject_some x c es w hl hE
  | none =>
    have he := hn rfl
    subst he
    refine (toProject_nil c w).mono fun e w' ⟨he, hw⟩ => ?_
    subst hw
    exact ⟨none, 0, he, fun h => by simp at h, Below.refl _ _⟩

/-- okSpan at a span. -/
theorem okSpan_yes (lo hi : Int) (n : Nat) (w : World) (h1 : 0 ≤ lo) (h2 : lo ≤ hi) (h3 : hi ≤ n) (h4 : hi ≤ 65536) (h5 : n ≤ 65536) :
    Calls Try.prog 13 #[.int .i32 lo, .int .i32 hi, .int .i64 n] w fun e w' => e = .returned (.bool true) ∧ w' = w := by
  have b1 : decide (0 ≤ lo) = true := decide_eq_true h1
  have b2 : decide (lo ≤ hi) = true := decide_eq_true h2
  go_enter Try.func13, Try.ntmps13
  go_wp2
  go_ret
  exact ⟨by simp, rfl⟩
theorem minInt_any (x y z : Int) (w : World) (hz : z = if x < y then x else y) :
    Calls Try.prog 14 #[.int .i64 x, .int .i64 y] w fun e w' => e = .returned (.int .i64 z) ∧ w' = w := by
  subst hz
  by_cases h : x < y
  · rw [if_pos h]
    go_enter Try.func14, Try.ntmps14
    go_wp2
    go_ret
    exact ⟨rfl, rfl⟩
  · rw [if_neg h]
    go_enter Try.func14, Try.ntmps14
    go_wp2
    go_ret
    exact ⟨rfl, rfl⟩

end Go.Proofs.Qxb6627878a.leaf
