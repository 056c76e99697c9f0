/-
  The contracts of the two bounds on total length (functions 5 and 10).
-/
import Derived.Test.Qxb6627834aDoorEq
namespace Go.Proofs.Qxb6627834aDoor.bytes
open Go.RowKit Go.Proofs.Qxb6627834aDoor.plain Go.Proofs.Qxb6627834aDoor.grid
set_option linter.unusedVariables false

/-- Every text fits Go's own bound. -/
def Fits (L : List ByteArray) : Prop := ∀ i, i < L.length → (L.getD i ByteArray.empty).size ≤ 9223372036854775807

set_option maxHeartbeats 4000000 in
set_option maxRecDepth 100000 in
theorem bytes5 (a : Option Addr) (c : Nat) (L : List ByteArray) (name : ByteArray) (k : Int) (w : World) (hL : L.length ≤ 9223372036854775807) (hF : Fits L) (hn : name.size ≤ 9223372036854775807) (hX : Texts w a L) :
    Calls Tryd.prog 5 #[.slice a L.length c, .string name, .int .i64 k] w fun e w' => ∃ b : Bool, e = .returned (.bool b) ∧ w' = w ∧ (b = true → L.length ≤ 1048576 ∧ Small L ∧ name.size ≤ 1048576) := by
  by_cases h1 : 1048576 < L.length
  · go_enter Tryd.func5, Tryd.ntmps5
    go_wp2
    go_ret
    exact ⟨false, rfl, rfl, fun h => by cases h⟩
  · have h1' : L.length ≤ 1048576 := by omega
    go_enter Tryd.func5, Tryd.ntmps5
    go_wp2
    go_loopg [7, 8] L.length (fun g z x wr => ∃ j s : Nat, j ≤ L.length ∧ g = L.length - j ∧ z = .int .i64 s ∧ s ≤ 1048576 ∧ x = .int .i64 j ∧ w = wr ∧ Hid (∀ i, i < j → (L.getD i ByteArray.empty).size ≤ 1048576))
    case atStart => exact ⟨0, L.length, Nat.zero_le _, rfl, rfl, h1', rfl, rfl, fun i hi => by omega⟩
    case round =>
      obtain ⟨j, s, hj, rfl, rfl, hs, rfl, rfl, hsm⟩ := hrel
      by_cases hlt : j < L.length
      · obtain ⟨b, off, rfl, hb, hc⟩ := hX (by omega)
        have ck := hc j hlt
        have hf := hF j hlt
        have hstep : Hid ((L.getD j ByteArray.empty).size ≤ 1048576 → ∀ i, i < j + 1 → (L.getD i ByteArray.empty).size ≤ 1048576) := by
          intro h i hi
          by_cases e : i = j
          · rw [e]; exact h
          · exact hsm.out i (by omega)
        clear hc hsm
        generalize L.getD j ByteArray.empty = t at *
        by_cases h2 : t.size ≤ 1048576
        · by_cases h3 : s + t.size ≤ 1048576
          · go_wp2
            go_roundg (L.length - (j + 1))
            case measure => omega
            case rel => exact ⟨j + 1, s + t.size, by omega, rfl, by go_num, h3, by go_num, rfl, hstep.out h2⟩
          · go_wp2
            go_ret
            exact ⟨false, rfl, rfl, fun h => by cases h⟩
        · go_wp2
          go_ret
          exact ⟨false, rfl, rfl, fun h => by cases h⟩
      · have fin : Hid (Small L) := fun i hi => hsm.out i (by omega)
        clear hsm
        have jb : decide (j < L.length) = false := decide_eq_false hlt
        by_cases h2 : name.size ≤ 1048576
        · by_cases h3 : s + name.size ≤ 1048576
          · go_wp2
            go_ret
            exact ⟨true, rfl, rfl, fun _ => ⟨h1', fin.out, h2⟩⟩
          · go_wp2
            go_ret
            exact ⟨false, rfl, rfl, fun h => by cases h⟩
        · go_wp2
          go_ret
          exact ⟨false, rfl, rfl, fun h => by cases h⟩

set_option maxHeartbeats 4000000 in
set_option maxRecDepth 100000 in
theorem bytes10 (a : Option Addr) (c : Nat) (L : List ByteArray) (name x : ByteArray) (k : Int) (w : World) (hL : L.length ≤ 9223372036854775807) (hF : Fits L) (hn : name.size ≤ 9223372036854775807) (hx : x.size ≤ 9223372036854775807) (hX : Texts w a L) :
    Calls Tryd.prog 10 #[.slice a L.length c, .string name, .string x, .int .i64 k] w fun e w' => ∃ b : Bool, e = .returned (.bool b) ∧ w' = w ∧ (b = true → L.length ≤ 1048576 ∧ Small L ∧ name.size ≤ 1048576 ∧ x.size ≤ 1048576) := by
  by_cases h1 : 1048576 < L.length
  · go_enter Tryd.func10, Tryd.ntmps10
    go_wp2
    go_ret
    exact ⟨false, rfl, rfl, fun h => by cases h⟩
  · have h1' : L.length ≤ 1048576 := by omega
    go_enter Tryd.func10, Tryd.ntmps10
    go_wp2
    go_loopg [9, 10] L.length (fun g z y wr => ∃ j s : Nat, j ≤ L.length ∧ g = L.length - j ∧ z = .int .i64 s ∧ s ≤ 1048576 ∧ y = .int .i64 j ∧ w = wr ∧ Hid (∀ i, i < j → (L.getD i ByteArray.empty).size ≤ 1048576))
    case atStart => exact ⟨0, L.length, Nat.zero_le _, rfl, rfl, h1', rfl, rfl, fun i hi => by omega⟩
    case round =>
      obtain ⟨j, s, hj, rfl, rfl, hs, rfl, rfl, hsm⟩ := hrel
      by_cases hlt : j < L.length
      · obtain ⟨b, off, rfl, hb, hc⟩ := hX (by omega)
        have ck := hc j hlt
        have hf := hF j hlt
        have hstep : Hid ((L.getD j ByteArray.empty).size ≤ 1048576 → ∀ i, i < j + 1 → (L.getD i ByteArray.empty).size ≤ 1048576) := by
          intro h i hi
          by_cases e : i = j
          · rw [e]; exact h
          · exact hsm.out i (by omega)
        clear hc hsm
        generalize L.getD j ByteArray.empty = t at *
        by_cases h2 : t.size ≤ 1048576
        · by_cases h3 : s + t.size ≤ 1048576
          · go_wp2
            go_roundg (L.length - (j + 1))
            case measure => omega
            case rel => exact ⟨j + 1, s + t.size, by omega, rfl, by go_num, h3, by go_num, rfl, hstep.out h2⟩
          · go_wp2
            go_ret
            exact ⟨false, rfl, rfl, fun h => by cases h⟩
        · go_wp2
          go_ret
          exact ⟨false, rfl, rfl, fun h => by cases h⟩
      · have fin : Hid (Small L) := fun i hi => hsm.out i (by omega)
        clear hsm
        have jb : decide (j < L.length) = false := decide_eq_false hlt
        by_cases h2 : name.size ≤ 1048576
        · by_cases h3 : s + name.size ≤ 1048576
          · by_cases h4 : x.size ≤ 1048576
            · by_cases h5 : s + name.size + x.size ≤ 1048576
              · go_wp2
                go_ret
                exact ⟨true, rfl, rfl, fun _ => ⟨h1', fin.out, h2, h4⟩⟩
              · go_wp2
                go_ret
                exact ⟨false, rfl, rfl, fun h => by cases h⟩
            · go_wp2
              go_ret
              exact ⟨false, rfl, rfl, fun h => by cases h⟩
          · go_wp2
            go_ret
            exact ⟨false, rfl, rfl, fun h => by cases h⟩
        · go_wp2
          go_ret
          exact ⟨false, rfl, rfl, fun h => by cases h⟩

end Go.Proofs.Qxb6627834aDoor.bytes
