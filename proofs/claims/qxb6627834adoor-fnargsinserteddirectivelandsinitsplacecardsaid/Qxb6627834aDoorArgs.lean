/-
  The contracts of strings.Fields in our words, of directive.Args (function 13), ZZArgsOf (6) and ZZArgsNil (8).
-/
import Derived.Test.Qxb6627834aDoorGrid
namespace Go.Proofs.Qxb6627834aDoor.args
open Go.RowKit Go.Proofs.Qxb6627834aDoor.plain Go.Proofs.Qxb6627834aDoor.fields Go.Proofs.Qxb6627834aDoor.rest Go.Proofs.Qxb6627834aDoor.grid
set_option linter.unusedVariables false

/-- The library's two tables hold what their initialisers lay. -/
def Tabs (w : World) : Prop := Lib.TabIs Tryd.prog w "strings.asciiSpace" .u8 Lib.asciiSpaceTab ∧ Lib.WhiteTab 1 w
theorem gAscii : Tryd.prog.globalNamed "strings.asciiSpace" = some 0 := by kernel_rfl
theorem Tabs.below {w w' : World} (h : Tabs w) (hb : Below w.heap.size w w') : Tabs w' := by
  refine ⟨?_, WhiteTab_below h.2 hb⟩
  have h1 : w.var? Tryd.prog "strings.asciiSpace" = some _ := h.1
  have hlt : 0 < w.heap.size := by
    simp only [World.var?, gAscii, Option.bind_some] at h1
    cases e : w.heap[0]? with
    | none => rw [e] at h1; simp at h1
    | some o => exact lt_of_block e
  exact var?_below hb gAscii hlt h1

theorem words_D (s : ByteArray) : (Lib.fieldsD s.data.toList).map (fun x => Value.string ⟨x.toArray⟩) = (words s).map Value.string := by
  rw [words, Lib.fieldsU_eq, List.map_map]; rfl
theorem words_len (s : ByteArray) : (Lib.fieldsD s.data.toList).length = (words s).length := by
  rw [words, Lib.fieldsU_eq, List.length_map]

/-- strings.Fields. -/
theorem goFields_shape (s : ByteArray) (w : World) (hs : s.size ≤ 4194304) (hT : Tabs w) :
    Calls Tryd.prog 16 #[.string s] w fun e w' => ∃ ao c, e = .returned (.slice ao (words s).length c) ∧ Inner w' (.slice ao (words s).length c) (words s) ∧ Below w.heap.size w w' := by
  have c := Tryd.strings_Fields_any s w (by omega) hT.1 hT.2
  rw [words_D, words_len] at c
  refine c.mono fun e w' ⟨A, he, _, hown, hb⟩ => ?_
  exact ⟨_, _, he, ⟨_, hown⟩, hb⟩

/-- A list of pointers to comments. -/
def Comments (w : World) (a : Option Addr) (L : List ByteArray) : Prop :=
  0 < L.length → ∃ b off, a = some ⟨b, off, none⟩ ∧ b < w.heap.size ∧ ∀ i, i < L.length → ∃ p, w.cell? ⟨b, off + i, none⟩ = some (.pointer (some ⟨p, 0, none⟩)) ∧ p < w.heap.size ∧ w.cell? ⟨p, 1, none⟩ = some (.string (L.getD i ByteArray.empty))

set_option maxHeartbeats 4000000 in
set_option maxRecDepth 100000 in
/-- THE CONTRACT OF directive.Args. -/
theorem Args_any (G : Nat) (a : Option Addr) (c : Nat) (L : List ByteArray) (name : ByteArray) (w : World) (hL : L.length ≤ 1048577) (hS : Small L) (hn : name.size ≤ 1048576) (hC : Comments w a L) (hG : w.cell? ⟨G, 0, none⟩ = some (.slice a L.length c)) (hT : Tabs w) :
    Calls Tryd.prog 13 #[.pointer (some ⟨G, 0, none⟩), .string name] w fun e w' => ∃ v, e = .returned v ∧ Grid w' w.heap.size v (argsB name L) ∧ (argsB name L = [] → v = .slice none 0 0) ∧ Below w.heap.size w w' := by
  obtain ⟨i0, hi, hz0, hz1, hz2⟩ := info_parts Tryd.info22
  go_enter Tryd.func13, Tryd.ntmps13
  go_wp2
  go_loopg [5, 17] L.length (fun g v x wr => ∃ k : Nat, k ≤ L.length ∧ g = L.length - k ∧ x = .int .i64 k ∧ Grid wr w.heap.size v (argsB name (L.take k)) ∧ (argsB name (L.take k) = [] → v = .slice none 0 0) ∧ Below w.heap.size w wr)
  case atStart => exact ⟨0, Nat.zero_le _, rfl, rfl, Grid.nil _ _, fun _ => rfl, Below.refl _ _⟩
  case round =>
    obtain ⟨k, hk, rfl, rfl, hgrid, hnil, hbl⟩ := hrel
    by_cases hlt : k < L.length
    · obtain ⟨b, off, rfl, hb, hc⟩ := hC (by omega)
      obtain ⟨p, hp1, hp2, hp3⟩ := hc k hlt
      have ck : wr.cell? ⟨b, off + k, none⟩ = some (.pointer (some ⟨p, 0, none⟩)) := (hbl.cell (p := ⟨b, off + k, none⟩) hb).trans hp1
      have ct : wr.cell? ⟨p, 1, none⟩ = some (.string (L.getD k ByteArray.empty)) := (hbl.cell (p := ⟨p, 1, none⟩) hp2).trans hp3
      have hts := hS k hlt
      have hal := argsB_length_le name (L.take k)
      have hal2 : (L.take k).length ≤ k := List.length_take_le _ _
      have hsn := argsB_snoc name (L.take k) (L.getD k ByteArray.empty)
      rw [← take_snoc L k hlt] at hsn
      have HS := hsn
      have hTr : Tabs wr := hT.below hbl
      have HN : Hid (argsB name (L.take k) = [] → u5 = .slice none 0 0) := hnil
      clear hsn hc hp1 hp3 hnil
      generalize L.getD k ByteArray.empty = t at *
      have hrl := restV_le t name hts
      have cR : Calls Tryd.prog 15 #[.pointer (some ⟨p, 0, none⟩), .string name] wr fun e w' => e = .returned (.tuple #[.string (restV t name), .bool (isDir t name)]) ∧ w' = wr := argsOf_any p t name wr hts hn ct
      cases hd : isDir t name with
      | false =>
        rw [hd] at HS cR
        have HS' : Hid (argsB name (L.take (k + 1)) = argsB name (L.take k)) := by simpa [Hid] using HS
        have cR' : Hid (Calls Tryd.prog 15 #[.pointer (some ⟨p, 0, none⟩), .string name] wr fun e w' => e = .returned (.tuple #[.string (restV t name), .bool false]) ∧ w' = wr) := cR
        clear HS cR hd
        go_wp2_with (go_at_call 15; refine (cR'.out).mono ?_; rintro e w1 ⟨rfl, rfl⟩)
        go_roundg (L.length - (k + 1))
        case measure => omega
        case rel => exact ⟨k + 1, by omega, rfl, by go_num, by rw [HS'.out]; exact hgrid, by rw [HS'.out]; exact HN.out, hbl⟩
      | true =>
        rw [hd] at HS cR
        have HS' : Hid (argsB name (L.take (k + 1)) = argsB name (L.take k) ++ [words (restV t name)]) := by simpa [Hid] using HS
        have cR' : Hid (Calls Tryd.prog 15 #[.pointer (some ⟨p, 0, none⟩), .string name] wr fun e w' => e = .returned (.tuple #[.string (restV t name), .bool true]) ∧ w' = wr) := cR
        clear HS cR hd
        generalize argsB name (L.take k) = LL at *
        go_wp2_with (go_at_call 15; refine (cR'.out).mono ?_; rintro e w1 ⟨rfl, rfl⟩)
        refine (goFields_shape (restV t name) _ (by omega) hTr).mono ?_
        rintro e w2 ⟨ao, c2, rfl, hin, hb2⟩
        obtain ⟨xs, hxl, hown, hinn⟩ := hgrid.below hb2
        have hbl2 := hbl.trans (hb2.mono hbl.size)
        clear hgrid hbl hb2 hTr cR' ck ct
        generalize words (restV t name) = W at *
        go_wp2_with (at_builtin; refine wpList_append_own _ rfl (.tmp 28) (.tmp 31) 24 rfl w.heap.size 22 i0 (.slice none 0 0) 1 24 Tryd.underlying24 hi hz0 hz1 hz2 rfl (by decide) _ _ _ rfl (hown.alloc _) ⟨_, 0, none⟩ 1 1 [.slice ao W.length c2] rfl rfl (one_cell _ _ _) (slice_one _ _ _) (by unfold maxLen; omega) (by omega) (by have := hbl2.size; simp; omega) ?_; intro v' w3 hown3 hgrow3 _)
        have hbl3 := below_append hbl2 hbl2.size hown hgrow3
        have hg3 := grid_push hxl hown hinn hin hown3 hgrow3
        clear hown3 hgrow3
        go_roundg (L.length - (k + 1))
        case measure => omega
        case rel => exact ⟨k + 1, by omega, rfl, by go_num, by rw [HS'.out]; exact hg3, by rw [HS'.out]; intro h; simp at h, hbl3⟩
    · have e : Hid (L.take k = L) := List.take_of_length_le (by omega)
      have kb : decide (k < L.length) = false := decide_eq_false hlt
      have HN : Hid (argsB name (L.take k) = [] → u5 = .slice none 0 0) := hnil
      clear hnil
      go_wp2
      go_ret
      exact ⟨_, rfl, by rw [e.out] at hgrid; exact hgrid, by have := HN.out; rw [e.out] at this; exact this, hbl⟩

end Go.Proofs.Qxb6627834aDoor.args
