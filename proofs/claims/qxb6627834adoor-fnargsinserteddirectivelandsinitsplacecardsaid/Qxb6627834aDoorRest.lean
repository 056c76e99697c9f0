/-
  The contracts of directiveRestB1 (function 11) and of directive.argsOf (function 15): both hand back what follows the directive.
-/
import Derived.Test.Qxb6627834aDoorShelf
import Derived.Test.Qxb6627834aDoorPlain
import Derived.WalkKit
import Derived.Lib.IndexBytes
import Derived.WideShapes
import Derived.Below
import Derived.OneCell
import Derived.RegionTactic
import Derived.Deep.QuietTactic
import Derived.BigQuiet
import Derived.Outline
import Derived.WalkSmall
import Derived.WalkLawsBesides
import Derived.WalkSpells
import Derived.Deep.LoopGhost
namespace Go.Proofs.Qxb6627834aDoor.rest
open Go.RowKit Go.Proofs.Qxb6627834aDoor.plain
set_option linter.unusedVariables false

/-- The text is too short. -/
theorem rest_short (t name : ByteArray) (w : World) (ht : t.size ≤ 1048576) (hn : name.size ≤ 1048576) (h : t.size < 10 + name.size) :
    Calls Tryd.prog 11 #[.string t, .string name] w fun e w' => e = .returned (.tuple #[.string ByteArray.empty, .bool false]) ∧ w' = w := by
  go_enter Tryd.func11, Tryd.ntmps11
  go_wp2
  go_ret2
  exact ⟨rfl, rfl⟩

theorem restV_no {t name : ByteArray} (h : isDir t name = false) : restV t name = ByteArray.empty := by simp [restV, h]
theorem restV_yes {t name : ByteArray} (h : isDir t name = true) : restV t name = tailB t (10 + name.size) := by simp [restV, h]
theorem ret_no {t name : ByteArray} (h : isDir t name = false) : Ending.returned (.tuple #[.string ⟨#[]⟩, .bool false]) = .returned (.tuple #[.string (restV t name), .bool (isDir t name)]) := by
  rw [h, restV_no h]; rfl

set_option maxHeartbeats 1000000 in
theorem rest_walk (t name : ByteArray) (w : World) (ht : t.size ≤ 1048576) (hn : name.size ≤ 1048576) (h : 10 + name.size ≤ t.size) :
    Calls Tryd.prog 11 #[.string t, .string name] w fun e w' => e = .returned (.tuple #[.string (restV t name), .bool (isDir t name)]) ∧ ∃ n, w' = w.drewN n := by
  go_enter Tryd.func11, Tryd.ntmps11
  go_wp2
  go_loopg [7] 10 (fun g i wr => ∃ k n : Nat, k ≤ 10 ∧ g = 10 - k ∧ i = .int .i64 k ∧ wr = w.drewN n ∧ Hid (∀ j, j < k → t.data.toList.getD j 0 = leadB.data.toList.getD j 0))
  case atStart => exact ⟨0, 0, by omega, rfl, rfl, rfl, fun j hj => by omega⟩
  case round =>
    obtain ⟨k, n, hk, rfl, rfl, rfl, hsame⟩ := hrel
    by_cases hk10 : k < 10
    · have hkt : k < t.size := by omega
      have e1 : Hid (t.data.toList.getD k 0 = t[k]) := byte_at t k hkt
      have e2 : Hid (leadB.data.toList.getD k 0 = (ByteArray.mk #[47, 47, 99, 97, 115, 101, 102, 117, 108, 58])[k]'(by exact hk10)) := byte_at leadB k (by exact hk10)
      go_wp2
      go_quiet (fail)
      go_wp2
      · have hne : ((t[k].toNat : Int) != (((ByteArray.mk #[47, 47, 99, 97, 115, 101, 102, 117, 108, 58])[k]'(by exact hk10)).toNat : Int)) = true := by assumption
        go_ret2
        exact ⟨ret_no (isDir_no1 hk10 (by rw [e1.out, e2.out]; exact byte_ne hne)), n + nq, by simp⟩
      · have heq : ((t[k].toNat : Int) != (((ByteArray.mk #[47, 47, 99, 97, 115, 101, 102, 117, 108, 58])[k]'(by exact hk10)).toNat : Int)) = false := by assumption
        go_roundg (10 - (k + 1))
        case measure => omega
        case rel =>
          refine ⟨k + 1, _, by omega, rfl, by go_num, rfl, fun j hj => ?_⟩
          by_cases e : j = k
          · subst e; rw [e1.out, e2.out]; exact byte_eq heq
          · exact hsame.out j (by omega)
    · have H1 : Hid (∀ j, j < 10 → t.data.toList.getD j 0 = leadB.data.toList.getD j 0) := fun j hj => hsame.out j (by omega)
      have kb : decide (k < 10) = false := decide_eq_false hk10
      clear hsame
      go_wp2
      go_loopg [8] name.size (fun g i wr => ∃ k n : Nat, k ≤ name.size ∧ g = name.size - k ∧ i = .int .i64 k ∧ wr = w.drewN n ∧ Hid (∀ j, j < k → t.data.toList.getD (10 + j) 0 = name.data.toList.getD j 0))
      case atStart => exact ⟨0, n, by omega, rfl, rfl, rfl, fun j hj => by omega⟩
      case round =>
        clear kb hk10 hk
        obtain ⟨k, n, hk, rfl, rfl, rfl, hsame2⟩ := hrel
        by_cases hkn : k < name.size
        · have hkt : 10 + k < t.size := by omega
          have e1 : Hid (t.data.toList.getD (10 + k) 0 = t[10 + k]) := byte_at t (10 + k) hkt
          have e2 : Hid (name.data.toList.getD k 0 = name[k]) := byte_at name k hkn
          have a1 : IntKind.i64.wrap (10 + (k : Int)) = 10 + (k : Int) := by rw [IntKind.wrap_i64]; omega
          have a2 : (10 + (k : Int)).toNat = 10 + k := by omega
          have a3 : (10 : Int) + (k : Int) < (t.size : Int) := by omega
          have a4 : (0 : Int) ≤ 10 + (k : Int) := by omega
          go_wp2
          go_quiet (fail)
          go_wp2
          · have hne : ((t[10 + k].toNat : Int) != (name[k].toNat : Int)) = true := by assumption
            go_ret2
            exact ⟨ret_no (isDir_no2 hkn (by rw [e1.out, e2.out]; exact byte_ne hne)), n + nq, by simp⟩
          · have heq : ((t[10 + k].toNat : Int) != (name[k].toNat : Int)) = false := by assumption
            go_roundg (name.size - (k + 1))
            case measure => omega
            case rel =>
              refine ⟨k + 1, _, by omega, rfl, by go_num, rfl, fun j hj => ?_⟩
              by_cases e : j = k
              · subst e; rw [e1.out, e2.out]; exact byte_eq heq
              · exact hsame2.out j (by omega)
        · have H2 : Hid (∀ j, j < name.size → t.data.toList.getD (10 + j) 0 = name.data.toList.getD j 0) := fun j hj => hsame2.out j (by omega)
          have kb : decide (k < name.size) = false := decide_eq_false hkn
          clear hsame2
          by_cases hlt : 10 + name.size < t.size
          · have e1 : Hid (t.data.toList.getD (10 + name.size) 0 = t[10 + name.size]) := byte_at t _ hlt
            have a2 : (10 + (name.size : Int)).toNat = 10 + name.size := by omega
            cases hs : ((t[10 + name.size].toNat : Int) != 32) with
            | true =>
              have hd : isDir t name = false := isDir_no3 hlt (by rw [e1.out]; intro e; rw [e] at hs; simp at hs)
              have Hd : Hid (isDir t name = false) := hd
              clear hd
              go_wp2
              go_ret2
              exact ⟨ret_no Hd.out, n, rfl⟩
            | false =>
              have hd : isDir t name = true := isDir_yes h H1.out H2.out (fun _ => by
                rw [e1.out]; rw [bne_eq_false_iff_eq] at hs; exact UInt8.toNat_inj.1 (by simpa using (by omega : t[10 + name.size].toNat = 32)))
              have Hd : Hid (isDir t name = true) := hd
              clear hd
              go_wp2
              go_ret2
              exact ⟨by rw [Hd.out, restV_yes Hd.out]; rfl, n, rfl⟩
          · have hd : isDir t name = true := isDir_yes h H1.out H2.out (fun hh => absurd hh hlt)
            have Hd : Hid (isDir t name = true) := hd
            clear hd
            go_wp2
            go_ret2
            exact ⟨by rw [Hd.out, restV_yes Hd.out]; rfl, n, rfl⟩

/-- THE CONTRACT OF directiveRestB1. -/
theorem rest_any (t name : ByteArray) (w : World) (ht : t.size ≤ 1048576) (hn : name.size ≤ 1048576) :
    Calls Tryd.prog 11 #[.string t, .string name] w fun e w' => e = .returned (.tuple #[.string (restV t name), .bool (isDir t name)]) ∧ ∃ n, w' = w.drewN n := by
  by_cases h : t.size < 10 + name.size
  · refine (rest_short t name w ht hn h).mono fun e w' ⟨he, hw⟩ => ?_
    have hd := isDir_short h
    exact ⟨by rw [he, hd, restV_no hd], 0, by rw [hw]; rfl⟩
  · exact rest_walk t name w ht hn (by omega)

theorem lead_append (name : ByteArray) : ((⟨#[47, 47, 99, 97, 115, 101, 102, 117, 108, 58]⟩ : ByteArray) ++ name).data.toList = leadB.data.toList ++ name.data.toList := by
  rw [ByteArray.data_append, Array.toList_append]; rfl
theorem tail_data (s : ByteArray) (n : Nat) : (⟨(s.data.toList.drop n).toArray⟩ : ByteArray) = tailB s n := by
  apply WideShapes.bytes_inj
  have := Lib.extract_to_end s n
  simpa [tailB] using this.symm
theorem bytes_empty {r : ByteArray} (h : r.size = 0) : r = ⟨#[]⟩ := WideShapes.bytes_inj (List.eq_nil_of_length_eq_zero (by simpa using h))
theorem toList_ne {r : ByteArray} (h : 0 < r.size) : r.toList.isEmpty = false := by
  rw [ByteArray.toList_eq]
  cases e : r.data.toList with
  | nil => have := congrArg List.length e; rw [size_list, List.length_nil] at this; omega
  | cons a l => rfl

theorem cut_no (t name : ByteArray) (w : World) (h : (leadB.data.toList ++ name.data.toList).isPrefixOf t.data.toList = false) :
    Calls Tryd.prog 17 #[.string t, .string ((⟨#[47, 47, 99, 97, 115, 101, 102, 117, 108, 58]⟩ : ByteArray) ++ name)] w fun e w' => e = .returned (.tuple #[.string t, .bool false]) ∧ w' = w := by
  have c := Tryd.strings_CutPrefix t ((⟨#[47, 47, 99, 97, 115, 101, 102, 117, 108, 58]⟩ : ByteArray) ++ name) w
  rw [lead_append, Lib.trimPrefix, Lib.hasPrefix, h] at c
  simpa using c
theorem cut_yes (t name : ByteArray) (w : World) (h : (leadB.data.toList ++ name.data.toList).isPrefixOf t.data.toList = true) :
    Calls Tryd.prog 17 #[.string t, .string ((⟨#[47, 47, 99, 97, 115, 101, 102, 117, 108, 58]⟩ : ByteArray) ++ name)] w fun e w' => e = .returned (.tuple #[.string (tailB t (10 + name.size)), .bool true]) ∧ w' = w := by
  have c := Tryd.strings_CutPrefix t ((⟨#[47, 47, 99, 97, 115, 101, 102, 117, 108, 58]⟩ : ByteArray) ++ name) w
  rw [lead_append, Lib.trimPrefix, Lib.hasPrefix, h, if_pos rfl, List.length_append, lead_length, size_list, tail_data] at c
  exact c
theorem blank_prefix (r : ByteArray) (w : World) (b : Bool) (h : ([32] : List UInt8).isPrefixOf r.data.toList = b) :
    Calls Tryd.prog 18 #[.string r, .string ⟨#[32]⟩] w fun e w' => e = .returned (.bool b) ∧ w' = w := by
  have c := Tryd.strings_HasPrefix r ⟨#[32]⟩ w
  rw [Lib.hasPrefix] at c
  subst h
  exact c

theorem tail_size (t : ByteArray) (n : Nat) (h : n ≤ t.size) : (tailB t n).size = t.size - n := by simp [tailB]
theorem tail_head (t : ByteArray) (n : Nat) (h : n < t.size) : ([32] : List UInt8).isPrefixOf (tailB t n).data.toList = (t.data.toList.getD n 0 == 32) := by
  have e : (tailB t n).data.toList = t.data.toList.drop n := by rw [← tail_data]
  rw [e, List.drop_eq_getElem_cons (by simpa using h)]
  have e2 : t.data.toList.getD n 0 = t.data.toList[n]'(by simpa using h) := by
    rw [List.getD_eq_getElem?_getD, List.getElem?_eq_getElem]; rfl
  rw [e2]
  simp only [List.isPrefixOf, Bool.and_true]
  exact Bool.beq_comm

set_option maxHeartbeats 1000000 in
/-- THE CONTRACT OF directive.argsOf. -/
theorem argsOf_any (p : Nat) (t name : ByteArray) (w : World) (ht : t.size ≤ 1048576) (hn : name.size ≤ 1048576) (hc : w.cell? ⟨p, 1, none⟩ = some (.string t)) :
    Calls Tryd.prog 15 #[.pointer (some ⟨p, 0, none⟩), .string name] w fun e w' => e = .returned (.tuple #[.string (restV t name), .bool (isDir t name)]) ∧ w' = w := by
  cases hp : (leadB.data.toList ++ name.data.toList).isPrefixOf t.data.toList with
  | false =>
    have hd : Hid (isDir t name = false) := by simp [Hid, isDir, hp]
    have HP : Hid ((leadB.data.toList ++ name.data.toList).isPrefixOf t.data.toList = false) := hp
    clear hp
    go_enter Tryd.func15, Tryd.ntmps15
    go_wp2_with (go_at_call 17; refine (cut_no t name _ HP.out).mono ?_; rintro e w1 ⟨rfl, rfl⟩)
    go_ret2
    exact ⟨ret_no hd.out, rfl⟩
  | true =>
    obtain ⟨q1, q2, q3⟩ := (dir_prefix t name).1 hp
    have HP : Hid ((leadB.data.toList ++ name.data.toList).isPrefixOf t.data.toList = true) := hp
    have HY : Hid ((10 + name.size < t.size → t.data.toList.getD (10 + name.size) 0 = 32) → isDir t name = true) := fun h => isDir_yes q1 q2 q3 h
    have HN : Hid (10 + name.size < t.size → t.data.toList.getD (10 + name.size) 0 ≠ 32 → isDir t name = false) := fun h1 h2 => isDir_no3 h1 h2
    have hs := tail_size t _ q1
    have hh : Hid (10 + name.size < t.size → ([32] : List UInt8).isPrefixOf (tailB t (10 + name.size)).data.toList = (t.data.toList.getD (10 + name.size) 0 == 32)) := fun h => tail_head t _ h
    have hrv : Hid (isDir t name = true → restV t name = tailB t (10 + name.size)) := fun h => restV_yes h
    have c17 : Hid (∀ wx, Calls Tryd.prog 17 #[.string t, .string ((⟨#[47, 47, 99, 97, 115, 101, 102, 117, 108, 58]⟩ : ByteArray) ++ name)] wx fun e w' => e = .returned (.tuple #[.string (tailB t (10 + name.size)), .bool true]) ∧ w' = wx) := fun wx => cut_yes t name wx hp
    clear hp q2 q3
    generalize tailB t (10 + name.size) = R at *
    by_cases hlt : 10 + name.size < t.size
    · cases hb : (t.data.toList.getD (10 + name.size) 0 == 32) with
      | true =>
        have hd : Hid (isDir t name = true) := HY.out (fun _ => by simpa using hb)
        have hbp : Hid (([32] : List UInt8).isPrefixOf R.data.toList = true) := (hh.out hlt).trans hb
        have hne : R.toList.isEmpty = false := toList_ne (by omega)
        clear hb
        go_enter Tryd.func15, Tryd.ntmps15
        go_wp2_with (first | (go_at_call 17; refine (c17.out _).mono ?_; rintro e w1 ⟨rfl, rfl⟩) | (go_at_call 18; refine (blank_prefix R _ true hbp.out).mono ?_; rintro e w1 ⟨rfl, rfl⟩))
        go_ret2
        exact ⟨by rw [hd.out, hrv.out hd.out]; rfl, rfl⟩
      | false =>
        have hd : Hid (isDir t name = false) := HN.out hlt (by simpa using hb)
        have hbp : Hid (([32] : List UInt8).isPrefixOf R.data.toList = false) := (hh.out hlt).trans hb
        have hne : R.toList.isEmpty = false := toList_ne (by omega)
        clear hb
        go_enter Tryd.func15, Tryd.ntmps15
        go_wp2_with (first | (go_at_call 17; refine (c17.out _).mono ?_; rintro e w1 ⟨rfl, rfl⟩) | (go_at_call 18; refine (blank_prefix R _ false hbp.out).mono ?_; rintro e w1 ⟨rfl, rfl⟩))
        go_ret2
        exact ⟨ret_no hd.out, rfl⟩
    · have hd : Hid (isDir t name = true) := HY.out (fun h => absurd h hlt)
      have hR : R = ⟨#[]⟩ := bytes_empty (by omega)
      subst hR
      go_enter Tryd.func15, Tryd.ntmps15
      go_wp2_with (first | (go_at_call 17; refine (c17.out _).mono ?_; rintro e w1 ⟨rfl, rfl⟩))
      go_ret2
      exact ⟨by rw [hd.out, hrv.out hd.out]; rfl, rfl⟩

end Go.Proofs.Qxb6627834aDoor.rest
