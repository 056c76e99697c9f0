/-
  The walk of FnArgsInsertedDirectiveLandsInItsPlace (function 4).
-/
import Derived.Test.Qxb6627834aDoorSplit
namespace Go.Proofs.Qxb6627834aDoor.ins
open Go.RowKit Go.Proofs.Qxb6627834aDoor.plain Go.Proofs.Qxb6627834aDoor.rest Go.Proofs.Qxb6627834aDoor.fields Go.Proofs.Qxb6627834aDoor.grid Go.Proofs.Qxb6627834aDoor.args Go.Proofs.Qxb6627834aDoor.argsof Go.Proofs.Qxb6627834aDoor.eqargs Go.Proofs.Qxb6627834aDoor.bytes Go.Proofs.Qxb6627834aDoor.split
set_option linter.unusedVariables false

/-- The blank, and the directive that is put in. -/
def blank : ByteArray := ⟨#[32]⟩
def dirB (name x : ByteArray) : ByteArray := ((⟨#[47, 47, 99, 97, 115, 101, 102, 117, 108, 58]⟩ : ByteArray) ++ name) ++ blank ++ x

theorem dirB_list (name x : ByteArray) : (dirB name x).data.toList = (leadB.data.toList ++ name.data.toList) ++ ([32] ++ x.data.toList) := by
  unfold dirB
  rw [ByteArray.data_append, ByteArray.data_append, Array.toList_append, Array.toList_append, lead_append, List.append_assoc]
  rfl
theorem dirB_size (name x : ByteArray) : (dirB name x).size = 11 + name.size + x.size := by
  rw [← size_list, dirB_list, List.length_append, List.length_append, List.length_append, lead_length, size_list, size_list]
  simp only [List.length_cons, List.length_nil]
  omega
theorem dirB_is (name x : ByteArray) : isDir (dirB name x) name = true := by
  unfold isDir
  have h1 : (leadB.data.toList ++ name.data.toList).isPrefixOf (dirB name x).data.toList = true := by
    rw [dirB_list, List.isPrefixOf_iff_prefix]
    exact List.prefix_append _ _
  have h2 : (dirB name x).data.toList.getD (10 + name.size) 0 = 32 := by
    rw [dirB_list, getD_app2 _ _ _ (by rw [List.length_append, lead_length, size_list]; omega), List.length_append, lead_length, size_list]
    simp
  rw [h1, h2]
  simp
theorem dirB_rest (name x : ByteArray) : restV (dirB name x) name = blank ++ x := by
  rw [restV_yes (dirB_is name x), ← tail_data]
  apply WideShapes.bytes_inj
  rw [dirB_list]
  have e : 10 + name.size = (leadB.data.toList ++ name.data.toList).length := by rw [List.length_append, lead_length, size_list]
  rw [e, List.drop_left, ByteArray.data_append, Array.toList_append]
  rfl

/-- THE PLAIN LAW. -/
theorem args_ins (name x : ByteArray) (A B : List ByteArray) : argsB name (A ++ [dirB name x] ++ B) = argsB name A ++ [words (blank ++ x)] ++ argsB name B := by
  rw [argsB_append, argsB_snoc, dirB_is, dirB_rest]
  rfl

theorem texts_own {w : World} {base c : Nat} {a : Option Addr} {E : List ByteArray} (h : w.ownsRow base 9 1 (.slice a E.length c) E.length (E.map Value.string)) : Texts w a E := by
  intro hp
  rcases h.2 with ⟨_, h0⟩ | ⟨g, cap, cur, h', _, hh, _⟩
  · omega
  · have h2 := h
    rw [h'] at h2
    simp only [Value.slice.injEq] at h'
    refine ⟨g, 0, h'.1, lt_of_block hh, fun i hi => ?_⟩
    have := h2.cellAt i (by omega)
    rw [Nat.zero_add, this, List.getElem?_map, List.getD_eq_getElem?_getD, List.getElem?_eq_getElem hi]
    rfl

theorem small_append {A B : List ByteArray} (hA : Small A) (hB : Small B) : Small (A ++ B) := by
  intro i hi
  rw [List.length_append] at hi
  by_cases e : i < A.length
  · have := hA i e
    rw [List.getD_eq_getElem?_getD] at this ⊢
    rw [List.getElem?_append_left e]; exact this
  · have := hB (i - A.length) (by omega)
    rw [List.getD_eq_getElem?_getD] at this ⊢
    rw [List.getElem?_append_right (by omega)]; exact this
theorem small_one {d : ByteArray} (h : d.size ≤ 1048576) : Small [d] := by
  intro i hi
  simp at hi
  subst hi
  simpa using h

theorem mid_snoc {α : Type} (L : List α) (m i : Nat) (z : α) (h1 : m ≤ i) (h2 : i < L.length) : (L.take (i + 1)).drop m = (L.take i).drop m ++ [L.getD i z] := by
  rw [List.take_add_one, List.getElem?_eq_getElem h2, List.getD_eq_getElem?_getD, List.getElem?_eq_getElem h2]
  rw [List.drop_append_of_le_length (by rw [List.length_take]; omega)]
  rfl

set_option maxHeartbeats 16000000 in
set_option maxRecDepth 100000 in
theorem walk_some (x : Addr) (c : Nat) (L : List ByteArray) (name y : ByteArray) (k : Int) (w : World) (hL : L.length ≤ 9223372036854775807) (hF : Fits L) (hn : name.size ≤ 9223372036854775807) (hy : y.size ≤ 9223372036854775807) (hX : Texts w (some x) L) (hT : Tabs w) :
    Calls Tryd.prog 4 #[.slice (some x) L.length c, .string name, .string y, .int .i64 k] w fun e w' => e = .returned (.bool true) ∧ Below w.heap.size w w' := by
  obtain ⟨i0, hi, hz0, hz1, hz2⟩ := info_parts Tryd.info9
  obtain ⟨i2, hi2, hy0, hy1, hy2⟩ := info_parts Tryd.info22
  go_enter Tryd.func4, Tryd.ntmps4
  go_wp2_with fail
  refine (bytes10 (some x) c L name y k w hL hF hn hy hX).mono ?_
  rintro e w1 ⟨b, rfl, rfl, hb⟩
  cases b with
  | false =>
    go_wp2
    go_ret
    exact ⟨rfl, Below.refl _ _⟩
  | true =>
    obtain ⟨hL1, hS, hn1, hyl⟩ := hb rfl
    clear hb hF hL hn hy
    have nb1 : decide ((1048576 : Int) < (name.size : Int)) = false := decide_eq_false (by omega)
    have nb2 : decide ((1048576 : Int) < (y.size : Int)) = false := decide_eq_false (by omega)
    go_wp2_with (first
      | (at_make; refine wpList_make_full _ rfl _ _ 22 rfl w1.heap.size 9 i0 (.string ByteArray.empty) 1 Tryd.underlying22 hi hz0 hz1 _ _ _ _ L.length rfl rfl rfl rfl (by rw [hz2]; omega) (by unfold maxLen; omega) (Nat.le_refl _) ?_; intro w2 hown2 hgrow2; have hb2 := (Below.refl w1.heap.size w1).grown hgrow2 (Nat.le_refl _) (fun k h => by cases h); obtain ⟨cur, hcur, hcl⟩ := made_row hown2; obtain ⟨w3, hrun3, hX3, hb3⟩ := copy_run (c := c) hX hb2 (Nat.le_refl _) hcur hcl))
    · go_ret
      exact ⟨rfl, hb3⟩
    · have hsz : 64 + name.size + y.size ≤ 1048576 := by omega
      have hT3 := hT.below hb3
      clear hown2 hgrow2 hb2 hcur hcl hrun3 hX hT
      generalize (some ⟨w1.heap.size, 0, none⟩ : Option Addr) = a3 at *
      go_loopg [10, 11] L.length (fun g z y wr => ∃ j s : Nat, j ≤ L.length ∧ g = L.length - j ∧ z = .int .i64 s ∧ s ≤ 1048576 ∧ y = .int .i64 j ∧ w3 = wr)
      case atStart => exact ⟨0, 64 + name.size + y.size, Nat.zero_le _, rfl, by go_num, by omega, rfl, rfl⟩
      case round =>
        obtain ⟨j, s, hj, rfl, rfl, hs, rfl, rfl⟩ := hrel
        by_cases hlt : j < L.length
        · obtain ⟨b, off, rfl, hbl, hc⟩ := hX3 (by omega)
          have cj := hc j hlt
          have hsj := hS j hlt
          clear hc
          generalize L.getD j ByteArray.empty = t at *
          by_cases h3 : s + (16 + t.size) ≤ 1048576
          · go_wp2
            go_roundg (L.length - (j + 1))
            case measure => omega
            case rel => exact ⟨j + 1, s + (16 + t.size), by omega, rfl, by go_num, h3, by go_num, rfl⟩
          · go_wp2
            go_ret
            exact ⟨rfl, hb3⟩
        · have jb : decide (j < L.length) = false := decide_eq_false hlt
          by_cases hk : k < 0 ∨ (L.length : Int) < k
          · go_wp2
            all_goals
              go_ret
              exact ⟨rfl, hb3⟩
          · obtain ⟨m, rfl⟩ := Int.eq_ofNat_of_zero_le (show 0 ≤ k by omega)
            have hm : m ≤ L.length := by omega
            have kb1 : decide ((m : Int) < 0) = false := decide_eq_false (by omega)
            have kb2 : decide (L.length < m) = false := decide_eq_false (by omega)
            clear hk
            go_wp2_with (at_make; refine wpList_make_own _ rfl _ _ 22 rfl w3.heap.size 9 i0 (.string ByteArray.empty) 1 Tryd.underlying22 hi hz0 hz1 _ _ _ (L.length + 1) rfl rfl (by omega) (by rw [hz2]; omega) (by unfold maxLen; omega) (Nat.le_refl _) ?_; intro w4 hown4 hgrow4)
            have hD : (dirB name y).size ≤ 1048576 := by rw [dirB_size]; omega
            have eD : ((⟨#[47, 47, 99, 97, 115, 101, 102, 117, 108, 58]⟩ : ByteArray) ++ name ++ (⟨#[32]⟩ : ByteArray) ++ y) = dirB name y := rfl
            rw [eD]
            generalize hDe : dirB name y = D at *
            have HD : Hid (dirB name y = D) := hDe
            clear hDe eD
            go_loopg [13, 14] m (fun g v x wr => ∃ i : Nat, i ≤ m ∧ g = m - i ∧ x = .int .i64 i ∧ wr.ownsRow w3.heap.size 9 1 v (L.take i).length ((L.take i).map Value.string) ∧ Below w3.heap.size w3 wr)
            case atStart => exact ⟨0, Nat.zero_le _, rfl, rfl, hown4, (Below.refl _ _).grown hgrow4 (Nat.le_refl _) (fun k h => by cases h)⟩
            case round =>
              clear hown4 hgrow4
              obtain ⟨i, hil, rfl, rfl, hown, hbl⟩ := hrel
              have hal : (L.take i).length ≤ i := List.length_take_le _ _
              by_cases hlt2 : i < m
              · obtain ⟨b, off, rfl, hbb, hc⟩ := hX3 (by omega)
                have ck : wr.cell? ⟨b, off + i, none⟩ = some (.string (L.getD i ByteArray.empty)) := (hbl.cell (p := ⟨b, off + i, none⟩) hbb).trans (hc i (by omega))
                have HS : Hid (L.take (i + 1) = L.take i ++ [L.getD i ByteArray.empty]) := take_snoc L i (by omega)
                clear hc
                generalize L.getD i ByteArray.empty = t at *
                generalize L.take i = M at *
                go_wp2_with (at_builtin; refine wpList_append_own _ rfl (.tmp 100) (.tmp 105) 22 rfl w3.heap.size 9 i0 (.string ByteArray.empty) 1 16 Tryd.underlying22 hi hz0 hz1 hz2 rfl (by decide) _ _ _ rfl (hown.alloc _) ⟨_, 0, none⟩ 1 1 [.string t] rfl rfl (one_cell _ _ _) (one_one _) (by unfold maxLen; omega) (by omega) (by have := hbl.size; simp; omega) ?_; intro v' w9 hown9 hgrow9 _)
                have hbl9 := below_append hbl hbl.size hown hgrow9
                have hown9' : w9.ownsRow w3.heap.size 9 1 v' (M ++ [t]).length ((M ++ [t]).map Value.string) := by simpa using hown9
                clear hown9 hgrow9
                go_roundg (m - (i + 1))
                case measure => omega
                case rel => exact ⟨i + 1, by omega, rfl, by go_num, by rw [HS.out]; exact hown9', hbl9⟩
              · have ib : decide (i < m) = false := decide_eq_false hlt2
                have eim : i = m := by omega
                have hown5 : wr.ownsRow w3.heap.size 9 1 u13 (L.take m).length ((L.take m).map Value.string) := by rw [← eim]; exact hown
                have hal5 : (L.take m).length ≤ m := List.length_take_le _ _
                clear eim hown
                go_wp2_with (at_builtin; refine wpList_append_own _ rfl (.tmp 107) (.tmp 109) 22 rfl w3.heap.size 9 i0 (.string ByteArray.empty) 1 16 Tryd.underlying22 hi hz0 hz1 hz2 rfl (by decide) _ _ _ rfl (hown5.alloc _) ⟨_, 0, none⟩ 1 1 [.string D] rfl rfl (one_cell _ _ _) (one_one _) (by unfold maxLen; omega) (by omega) (by have := hbl.size; simp; omega) ?_; intro v6 w6 hown6 hgrow6 _)
                have hbl6 := below_append hbl hbl.size hown5 hgrow6
                have hown6' : w6.ownsRow w3.heap.size 9 1 v6 (L.take m ++ [D] ++ (L.take m).drop m).length ((L.take m ++ [D] ++ (L.take m).drop m).map Value.string) := by
                  have e : (L.take m).drop m = [] := List.drop_eq_nil_of_le hal5
                  rw [e]
                  simpa using hown6
                clear hown6 hgrow6 hown5 hbl
                go_loopg [13, 15] (L.length - m) (fun g v x wr => ∃ i : Nat, m ≤ i ∧ i ≤ L.length ∧ g = L.length - i ∧ x = .int .i64 i ∧ wr.ownsRow w3.heap.size 9 1 v (L.take m ++ [D] ++ (L.take i).drop m).length ((L.take m ++ [D] ++ (L.take i).drop m).map Value.string) ∧ Below w3.heap.size w3 wr)
                case atStart => exact ⟨m, Nat.le_refl _, hm, rfl, rfl, hown6', hbl6⟩
                case round =>
                  clear hown6' hbl6 ib hlt2 hil hal
                  obtain ⟨i, hil1, hil2, rfl, rfl, hown, hbl⟩ := hrel
                  have hal : (L.take m ++ [D] ++ (L.take i).drop m).length ≤ i + 1 := by
                    simp only [List.length_append, List.length_take, List.length_drop, List.length_cons, List.length_nil]; omega
                  by_cases hlt2 : i < L.length
                  · obtain ⟨b, off, rfl, hbb, hc⟩ := hX3 (by omega)
                    have ck : wr.cell? ⟨b, off + i, none⟩ = some (.string (L.getD i ByteArray.empty)) := (hbl.cell (p := ⟨b, off + i, none⟩) hbb).trans (hc i (by omega))
                    have HS : Hid (L.take m ++ [D] ++ (L.take (i + 1)).drop m = (L.take m ++ [D] ++ (L.take i).drop m) ++ [L.getD i ByteArray.empty]) := by
                      show _ = _
                      rw [mid_snoc L m i ByteArray.empty hil1 hlt2]; simp
                    clear hc
                    generalize L.getD i ByteArray.empty = t at *
                    generalize L.take m ++ [D] ++ (L.take i).drop m = M at *
                    go_wp2_with (at_builtin; refine wpList_append_own _ rfl (.tmp 118) (.tmp 123) 22 rfl w3.heap.size 9 i0 (.string ByteArray.empty) 1 16 Tryd.underlying22 hi hz0 hz1 hz2 rfl (by decide) _ _ _ rfl (hown.alloc _) ⟨_, 0, none⟩ 1 1 [.string t] rfl rfl (one_cell _ _ _) (one_one _) (by unfold maxLen; omega) (by omega) (by have := hbl.size; simp; omega) ?_; intro v' w9 hown9 hgrow9 _)
                    have hbl9 := below_append hbl hbl.size hown hgrow9
                    have hown9' : w9.ownsRow w3.heap.size 9 1 v' (M ++ [t]).length ((M ++ [t]).map Value.string) := by simpa using hown9
                    clear hown9 hgrow9
                    go_roundg (L.length - (i + 1))
                    case measure => omega
                    case rel => exact ⟨i + 1, by omega, by omega, rfl, by go_num, by rw [HS.out]; exact hown9', hbl9⟩
                  · have ib : decide (i < L.length) = false := decide_eq_false hlt2
                    have eT : L.take i = L := List.take_of_length_le (by omega)
                    rw [eT] at hown hal
                    clear eT
                    obtain ⟨aE, cE, rfl⟩ := own_shape hown
                    have hXE := texts_own hown
                    have hSE : Small (L.take m ++ [D] ++ L.drop m) := small_append (small_append (small_take hS m) (small_one hD)) (small_drop hS m)
                    have eE : Hid (argsB name (L.take m ++ [D] ++ L.drop m) = argsB name (L.take m) ++ [words (blank ++ y)] ++ argsB name (L.drop m)) := by
                      show _ = _
                      rw [← HD.out]; exact args_ins name y _ _
                    have hEl : (L.take m ++ [D] ++ L.drop m).length ≤ 1048577 := by
                      simp only [List.length_append, List.length_take, List.length_drop, List.length_cons, List.length_nil]; omega
                    have hX5 := hX3.below hbl
                    have hT5 := hT3.below hbl
                    have hb5 := hb3.trans (hbl.mono hb3.size)
                    clear hown hX3 hT3 hb3 hbl hal
                    generalize hEE : L.take m ++ [D] ++ L.drop m = E at *
                    clear hEE HD hD
                    go_wp2_with fail
                    refine (argsOf_n aE _ cE E name _ rfl hEl hSE hn1 hXE hT5).mono ?_
                    rintro e w6 ⟨ao1, d1, rfl, G1, _, b6⟩
                    have hX6 := hX5.below b6
                    have hT6 := hT5.below b6
                    have hb6 := hb5.trans (b6.mono hb5.size)
                    have hSL : ∀ i, i < (argsB name E).length → ((argsB name E).getD i []).length ≤ 4194304 := argsB_small_at name E hSE
                    have lE := argsB_length_le name E
                    clear hX5 hT5 hb5 b6 hXE
                    go_wp2_with fail
                    refine (argsOf_n a3 _ _ L name w6 rfl (by omega) hS hn1 hX6 hT6).mono ?_
                    rintro e w7 ⟨ao2, d2, rfl, G2, _, b7⟩
                    have hX7 := hX6.below b7
                    have hb7 := hb6.trans (b7.mono hb6.size)
                    have G1' := G1.below b7
                    have EL : Hid (argsB name L = argsB name (L.take m) ++ argsB name (L.drop m)) := by
                      show _ = _
                      rw [← argsB_append, List.take_append_drop]
                    have lLC := argsB_length_le name L
                    have lLA := argsB_length_le name (L.take m)
                    have hLA : (argsB name (L.take m)).length ≤ (argsB name L).length := by rw [EL.out, List.length_append]; omega
                    clear hX6 hT6 hb6 b7 G1
                    go_wp2
                    go_loopg [18, 19] m (fun g z x wr => ∃ i q : Nat, i ≤ m ∧ g = m - i ∧ x = .int .i64 i ∧ z = .int .i64 (argsB name (L.take i)).length ∧ wr = w7.drewN q)
                    case atStart => exact ⟨0, 0, Nat.zero_le _, rfl, rfl, rfl, rfl⟩
                    case round =>
                      obtain ⟨i, q, hil, rfl, rfl, rfl, rfl⟩ := hrel
                      have hlA := argsB_length_le name (L.take i)
                      have hlA2 : (L.take i).length ≤ i := List.length_take_le _ _
                      by_cases hlt3 : i < m
                      · obtain ⟨b, off, rfl, hbb, hc⟩ := hX7 (by omega)
                        have ck := hc i (by omega)
                        have hts := hS i (by omega)
                        have hsn := argsB_snoc name (L.take i) (L.getD i ByteArray.empty)
                        rw [← take_snoc L i (by omega)] at hsn
                        have HS := hsn
                        clear hsn hc
                        generalize L.getD i ByteArray.empty = t at *
                        have cR := fun wx => rest_any t name wx hts hn1
                        cases hd : isDir t name with
                        | false =>
                          rw [hd] at HS cR
                          have HS' : Hid ((argsB name (L.take (i + 1))).length = (argsB name (L.take i)).length) := by
                            show _ = _
                            rw [HS]; simp
                          have cR' : Hid (∀ wx, Calls Tryd.prog 11 #[.string t, .string name] wx fun e w' => e = .returned (.tuple #[.string (restV t name), .bool false]) ∧ ∃ n, w' = wx.drewN n) := cR
                          clear HS cR hd
                          go_wp2_with (go_at_call 11; refine (cR'.out _).mono ?_; rintro e wq ⟨rfl, q1, rfl⟩)
                          go_roundg (m - (i + 1))
                          case measure => omega
                          case rel => exact ⟨i + 1, q + q1, by omega, rfl, by go_num, by rw [HS'.out], by simp⟩
                        | true =>
                          rw [hd] at HS cR
                          have HS' : Hid ((argsB name (L.take (i + 1))).length = (argsB name (L.take i)).length + 1) := by
                            show _ = _
                            rw [HS]; simp
                          have cR' : Hid (∀ wx, Calls Tryd.prog 11 #[.string t, .string name] wx fun e w' => e = .returned (.tuple #[.string (restV t name), .bool true]) ∧ ∃ n, w' = wx.drewN n) := cR
                          clear HS cR hd
                          go_wp2_with (go_at_call 11; refine (cR'.out _).mono ?_; rintro e wq ⟨rfl, q1, rfl⟩)
                          go_roundg (m - (i + 1))
                          case measure => omega
                          case rel => exact ⟨i + 1, q + q1, by omega, rfl, by go_num, by rw [HS'.out]; go_num, by simp⟩
                      · have ib : decide (i < m) = false := decide_eq_false hlt3
                        have eim : i = m := by omega
                        have G1q := G1'.below (bdrew (Below.refl _ _) q)
                        have G2q := G2.below (bdrew (Below.refl _ _) q)
                        have hbq := bdrew hb7 q
                        clear G1' G2 hb7 hX7 hlA hlA2
                        generalize w7.drewN q = w8 at *
                        have eAt : Hid ((argsB name (L.take i)).length = (argsB name (L.take m)).length) := by
                          show _ = _
                          rw [eim]
                        clear eim
                        have hw1 : ((⟨#[32]⟩ : ByteArray) ++ y).size ≤ 4194304 := by
                          have e1 : (⟨#[32]⟩ : ByteArray).data.toList.length = 1 := rfl
                          rw [← size_list, ByteArray.data_append, Array.toList_append, List.length_append, e1, size_list]
                          omega
                        have eB : (blank ++ y) = ((⟨#[32]⟩ : ByteArray) ++ y) := rfl
                        rw [eB] at eE
                        have P1 : Hid ((argsB name L).take (argsB name (L.take i)).length = argsB name (L.take m)) := by
                          show _ = _
                          rw [eAt.out, EL.out, List.take_left]
                        have P2 : Hid ((argsB name L).drop (argsB name (L.take i)).length = argsB name (L.drop m)) := by
                          show _ = _
                          rw [eAt.out, EL.out, List.drop_left]
                        have hTl : (argsB name (L.take i)).length ≤ (argsB name L).length := by rw [eAt.out]; exact hLA
                        have PE : Hid (argsB name E = (argsB name L).take (argsB name (L.take i)).length ++ [words ((⟨#[32]⟩ : ByteArray) ++ y)] ++ (argsB name L).drop (argsB name (L.take i)).length) := by
                          show _ = _
                          rw [P1.out, P2.out]
                          exact eE.out
                        clear P1 P2 eAt eB eE EL hLA lLA
                        generalize (argsB name (L.take i)).length = T at *
                        generalize argsB name L = LC at *
                        generalize argsB name E = LE at *
                        have tb : decide (LC.length < T) = false := decide_eq_false (by omega)
                        go_wp2_with (at_make; refine wpList_make_own _ rfl _ _ 24 rfl w8.heap.size 22 i2 (.slice none 0 0) 1 Tryd.underlying24 hi2 hy0 hy1 _ _ _ (LC.length + 1) rfl rfl (by omega) (by rw [hy2]; omega) (by unfold maxLen; omega) (Nat.le_refl _) ?_; intro w9 hown9 hgrow9)
                        go_loopg [22, 23] T (fun g v x wr => ∃ i : Nat, i ≤ T ∧ g = T - i ∧ x = .int .i64 i ∧ Grid wr w8.heap.size v (LC.take i) ∧ Below w8.heap.size w8 wr)
                        case atStart => exact ⟨0, Nat.zero_le _, rfl, rfl, ⟨[], rfl, hown9, fun i hi => by simp at hi⟩, (Below.refl _ _).grown hgrow9 (Nat.le_refl _) (fun k h => by cases h)⟩
                        case round =>
                          clear hown9 hgrow9 ib hlt3 hil
                          obtain ⟨i, hil, rfl, rfl, Gv, bv⟩ := hrel
                          by_cases hilt : i < T
                          · obtain ⟨gA, bo, dd, rfl, cA, inA⟩ := grid_at G2q (show i < LC.length by omega)
                            have gl := grid_lt G2q
                            have cA' : wr.cell? ⟨gA, i, none⟩ = some (.slice bo (LC.getD i []).length dd) := (bv.cell (p := ⟨gA, i, none⟩) gl).trans cA
                            have inA' := inA.below bv
                            have HT : Hid (LC.take (i + 1) = LC.take i ++ [LC.getD i []]) := take_snoc2 LC i (by omega)
                            have hal : (LC.take i).length ≤ i := List.length_take_le _ _
                            clear cA inA
                            generalize LC.getD i [] = M at *
                            obtain ⟨xs, hxl, hown, hinn⟩ := Gv
                            generalize LC.take i = LT at *
                            go_wp2_with (at_builtin; refine wpList_append_own _ rfl (.tmp 161) (.tmp 166) 24 rfl w8.heap.size 22 i2 (.slice none 0 0) 1 24 Tryd.underlying24 hi2 hy0 hy1 hy2 rfl (by decide) _ _ _ rfl (hown.alloc _) ⟨_, 0, none⟩ 1 1 [.slice bo M.length dd] rfl rfl (one_cell _ _ _) (slice_one _ _ _) (by unfold maxLen; omega) (by omega) (by have := bv.size; simp; omega) ?_; intro v' wz hownz hgrowz _)
                            have bvz := below_append bv bv.size hown hgrowz
                            have Gz := grid_push hxl hown hinn inA' hownz hgrowz
                            clear hownz hgrowz
                            go_roundg (T - (i + 1))
                            case measure => omega
                            case rel => exact ⟨i + 1, by omega, rfl, by go_num, by rw [HT.out]; exact Gz, bvz⟩
                          · have ib : decide (i < T) = false := decide_eq_false hilt
                            have eiT : i = T := by omega
                            rw [eiT] at Gv
                            clear eiT
                            go_wp2_with fail
                            refine (fields_shape ((⟨#[32]⟩ : ByteArray) ++ y) wr hw1).mono ?_
                            rintro e wf ⟨aw, cw, rfl, inW, bf⟩
                            have bv' := bv.trans (bf.mono bv.size)
                            obtain ⟨xs, hxl, hown, hinn⟩ := Gv.below bf
                            have hal : (LC.take T).length ≤ T := List.length_take_le _ _
                            clear Gv bf bv
                            generalize words ((⟨#[32]⟩ : ByteArray) ++ y) = Wd at *
                            go_wp2_with (at_builtin; refine wpList_append_own _ rfl (.tmp 168) (.tmp 172) 24 rfl w8.heap.size 22 i2 (.slice none 0 0) 1 24 Tryd.underlying24 hi2 hy0 hy1 hy2 rfl (by decide) _ _ _ rfl (hown.alloc _) ⟨_, 0, none⟩ 1 1 [.slice aw Wd.length cw] rfl rfl (one_cell _ _ _) (slice_one _ _ _) (by unfold maxLen; omega) (by omega) (by have := bv'.size; simp; omega) ?_; intro v' wz hownz hgrowz _)
                            have bvz := below_append bv' bv'.size hown hgrowz
                            have Gz := grid_push hxl hown hinn inW hownz hgrowz
                            have Gz' : Grid wz w8.heap.size v' (LC.take T ++ [Wd] ++ (LC.take T).drop T) := by
                              rw [List.drop_eq_nil_of_le hal, List.append_nil]; exact Gz
                            clear hownz hgrowz Gz hown hinn hxl bv' inW
                            go_loopg [22, 24] (LC.length - T) (fun g v x wr => ∃ i : Nat, T ≤ i ∧ i ≤ LC.length ∧ g = LC.length - i ∧ x = .int .i64 i ∧ Grid wr w8.heap.size v (LC.take T ++ [Wd] ++ (LC.take i).drop T) ∧ Below w8.heap.size w8 wr)
                            case atStart => exact ⟨T, Nat.le_refl _, hTl, rfl, rfl, Gz', bvz⟩
                            case round =>
                              clear Gz' bvz ib hilt hil
                              obtain ⟨i, hi1, hi2', rfl, rfl, Gv, bv⟩ := hrel
                              by_cases hilt : i < LC.length
                              · obtain ⟨gA, bo, dd, rfl, cA, inA⟩ := grid_at G2q hilt
                                have gl := grid_lt G2q
                                have cA' : wr.cell? ⟨gA, i, none⟩ = some (.slice bo (LC.getD i []).length dd) := (bv.cell (p := ⟨gA, i, none⟩) gl).trans cA
                                have inA' := inA.below bv
                                have HT : Hid (LC.take T ++ [Wd] ++ (LC.take (i + 1)).drop T = (LC.take T ++ [Wd] ++ (LC.take i).drop T) ++ [LC.getD i []]) := by
                                  show _ = _
                                  rw [mid_snoc LC T i [] hi1 hilt]; simp
                                have hal : (LC.take T ++ [Wd] ++ (LC.take i).drop T).length ≤ i + 1 := by
                                  simp only [List.length_append, List.length_take, List.length_drop, List.length_cons, List.length_nil]; omega
                                clear cA inA
                                generalize LC.getD i [] = M at *
                                obtain ⟨xs, hxl, hown, hinn⟩ := Gv
                                generalize LC.take T ++ [Wd] ++ (LC.take i).drop T = LT at *
                                go_wp2_with (at_builtin; refine wpList_append_own _ rfl (.tmp 181) (.tmp 186) 24 rfl w8.heap.size 22 i2 (.slice none 0 0) 1 24 Tryd.underlying24 hi2 hy0 hy1 hy2 rfl (by decide) _ _ _ rfl (hown.alloc _) ⟨_, 0, none⟩ 1 1 [.slice bo M.length dd] rfl rfl (one_cell _ _ _) (slice_one _ _ _) (by unfold maxLen; omega) (by omega) (by have := bv.size; simp; omega) ?_; intro v' wz hownz hgrowz _)
                                have bvz := below_append bv bv.size hown hgrowz
                                have Gz := grid_push hxl hown hinn inA' hownz hgrowz
                                clear hownz hgrowz
                                go_roundg (LC.length - (i + 1))
                                case measure => omega
                                case rel => exact ⟨i + 1, by omega, by omega, rfl, by go_num, by rw [HT.out]; exact Gz, bvz⟩
                              · have ib : decide (i < LC.length) = false := decide_eq_false hilt
                                rw [List.take_of_length_le (show LC.length ≤ i by omega), ← PE.out] at Gv
                                obtain ⟨ao4, d4, rfl⟩ := Gv.shape
                                have G1w := G1q.below bv
                                have hbw := hbq.trans (bv.mono hbq.size)
                                clear G1q G2q bv hbq
                                go_wp2_with fail
                                refine (eq_same ao1 ao4 d1 d4 _ _ LE wr (by omega) hSL G1w Gv).mono ?_
                                rintro e wo ⟨rfl, q1, rfl⟩
                                go_wp2_with fail
                                go_ret
                                exact ⟨rfl, bdrew hbw q1⟩

set_option maxHeartbeats 16000000 in
set_option maxRecDepth 100000 in
theorem walk_none (a3 : Option Addr) (ha : a3.isNone = true) (c : Nat) (L : List ByteArray) (name y : ByteArray) (k : Int) (w : World) (hL : L.length ≤ 9223372036854775807) (hF : Fits L) (hn : name.size ≤ 9223372036854775807) (hy : y.size ≤ 9223372036854775807) (hX : Texts w a3 L) (hT : Tabs w) :
    Calls Tryd.prog 4 #[.slice a3 L.length c, .string name, .string y, .int .i64 k] w fun e w' => e = .returned (.bool true) ∧ Below w.heap.size w w' := by
  obtain ⟨i0, hi, hz0, hz1, hz2⟩ := info_parts Tryd.info9
  obtain ⟨i2, hi2, hy0, hy1, hy2⟩ := info_parts Tryd.info22
  go_enter Tryd.func4, Tryd.ntmps4
  go_wp2_with fail
  refine (bytes10 a3 c L name y k w hL hF hn hy hX).mono ?_
  rintro e w1 ⟨b, rfl, rfl, hb⟩
  cases b with
  | false =>
    go_wp2
    go_ret
    exact ⟨rfl, Below.refl _ _⟩
  | true =>
    obtain ⟨hL1, hS, hn1, hyl⟩ := hb rfl
    clear hb hF hL hn hy
    have nb1 : decide ((1048576 : Int) < (name.size : Int)) = false := decide_eq_false (by omega)
    have nb2 : decide ((1048576 : Int) < (y.size : Int)) = false := decide_eq_false (by omega)
    go_wp2
    · go_ret
      exact ⟨rfl, Below.refl _ _⟩
    · have hsz : 64 + name.size + y.size ≤ 1048576 := by omega
      obtain ⟨w3, hb3, hX3, hT3, ew⟩ : ∃ w3, Below w1.heap.size w1 w3 ∧ Texts w3 a3 L ∧ Tabs w3 ∧ w3 = w1 := ⟨w1, Below.refl _ _, hX, hT, rfl⟩
      rw [← ew]
      have hb3' : Below w3.heap.size w3 w3 := Below.refl _ _
      subst ew
      clear hX hT ha
      go_loopg [10, 11] L.length (fun g z y wr => ∃ j s : Nat, j ≤ L.length ∧ g = L.length - j ∧ z = .int .i64 s ∧ s ≤ 1048576 ∧ y = .int .i64 j ∧ w3 = wr)
      case atStart => exact ⟨0, 64 + name.size + y.size, Nat.zero_le _, rfl, by go_num, by omega, rfl, rfl⟩
      case round =>
        obtain ⟨j, s, hj, rfl, rfl, hs, rfl, rfl⟩ := hrel
        by_cases hlt : j < L.length
        · obtain ⟨b, off, rfl, hbl, hc⟩ := hX3 (by omega)
          have cj := hc j hlt
          have hsj := hS j hlt
          clear hc
          generalize L.getD j ByteArray.empty = t at *
          by_cases h3 : s + (16 + t.size) ≤ 1048576
          · go_wp2
            go_roundg (L.length - (j + 1))
            case measure => omega
            case rel => exact ⟨j + 1, s + (16 + t.size), by omega, rfl, by go_num, h3, by go_num, rfl⟩
          · go_wp2
            go_ret
            exact ⟨rfl, hb3⟩
        · have jb : decide (j < L.length) = false := decide_eq_false hlt
          by_cases hk : k < 0 ∨ (L.length : Int) < k
          · go_wp2
            all_goals
              go_ret
              exact ⟨rfl, hb3⟩
          · obtain ⟨m, rfl⟩ := Int.eq_ofNat_of_zero_le (show 0 ≤ k by omega)
            have hm : m ≤ L.length := by omega
            have kb1 : decide ((m : Int) < 0) = false := decide_eq_false (by omega)
            have kb2 : decide (L.length < m) = false := decide_eq_false (by omega)
            clear hk
            go_wp2_with (at_make; refine wpList_make_own _ rfl _ _ 22 rfl w3.heap.size 9 i0 (.string ByteArray.empty) 1 Tryd.underlying22 hi hz0 hz1 _ _ _ (L.length + 1) rfl rfl (by omega) (by rw [hz2]; omega) (by unfold maxLen; omega) (Nat.le_refl _) ?_; intro w4 hown4 hgrow4)
            have hD : (dirB name y).size ≤ 1048576 := by rw [dirB_size]; omega
            have eD : ((⟨#[47, 47, 99, 97, 115, 101, 102, 117, 108, 58]⟩ : ByteArray) ++ name ++ (⟨#[32]⟩ : ByteArray) ++ y) = dirB name y := rfl
            rw [eD]
            generalize hDe : dirB name y = D at *
            have HD : Hid (dirB name y = D) := hDe
            clear hDe eD
            go_loopg [13, 14] m (fun g v x wr => ∃ i : Nat, i ≤ m ∧ g = m - i ∧ x = .int .i64 i ∧ wr.ownsRow w3.heap.size 9 1 v (L.take i).length ((L.take i).map Value.string) ∧ Below w3.heap.size w3 wr)
            case atStart => exact ⟨0, Nat.zero_le _, rfl, rfl, hown4, (Below.refl _ _).grown hgrow4 (Nat.le_refl _) (fun k h => by cases h)⟩
            case round =>
              clear hown4 hgrow4
              obtain ⟨i, hil, rfl, rfl, hown, hbl⟩ := hrel
              have hal : (L.take i).length ≤ i := List.length_take_le _ _
              by_cases hlt2 : i < m
              · obtain ⟨b, off, rfl, hbb, hc⟩ := hX3 (by omega)
                have ck : wr.cell? ⟨b, off + i, none⟩ = some (.string (L.getD i ByteArray.empty)) := (hbl.cell (p := ⟨b, off + i, none⟩) hbb).trans (hc i (by omega))
                have HS : Hid (L.take (i + 1) = L.take i ++ [L.getD i ByteArray.empty]) := take_snoc L i (by omega)
                clear hc
                generalize L.getD i ByteArray.empty = t at *
                generalize L.take i = M at *
                go_wp2_with (at_builtin; refine wpList_append_own _ rfl (.tmp 100) (.tmp 105) 22 rfl w3.heap.size 9 i0 (.string ByteArray.empty) 1 16 Tryd.underlying22 hi hz0 hz1 hz2 rfl (by decide) _ _ _ rfl (hown.alloc _) ⟨_, 0, none⟩ 1 1 [.string t] rfl rfl (one_cell _ _ _) (one_one _) (by unfold maxLen; omega) (by omega) (by have := hbl.size; simp; omega) ?_; intro v' w9 hown9 hgrow9 _)
                have hbl9 := below_append hbl hbl.size hown hgrow9
                have hown9' : w9.ownsRow w3.heap.size 9 1 v' (M ++ [t]).length ((M ++ [t]).map Value.string) := by simpa using hown9
                clear hown9 hgrow9
                go_roundg (m - (i + 1))
                case measure => omega
                case rel => exact ⟨i + 1, by omega, rfl, by go_num, by rw [HS.out]; exact hown9', hbl9⟩
              · have ib : decide (i < m) = false := decide_eq_false hlt2
                have eim : i = m := by omega
                have hown5 : wr.ownsRow w3.heap.size 9 1 u13 (L.take m).length ((L.take m).map Value.string) := by rw [← eim]; exact hown
                have hal5 : (L.take m).length ≤ m := List.length_take_le _ _
                clear eim hown
                go_wp2_with (at_builtin; refine wpList_append_own _ rfl (.tmp 107) (.tmp 109) 22 rfl w3.heap.size 9 i0 (.string ByteArray.empty) 1 16 Tryd.underlying22 hi hz0 hz1 hz2 rfl (by decide) _ _ _ rfl (hown5.alloc _) ⟨_, 0, none⟩ 1 1 [.string D] rfl rfl (one_cell _ _ _) (one_one _) (by unfold maxLen; omega) (by omega) (by have := hbl.size; simp; omega) ?_; intro v6 w6 hown6 hgrow6 _)
                have hbl6 := below_append hbl hbl.size hown5 hgrow6
                have hown6' : w6.ownsRow w3.heap.size 9 1 v6 (L.take m ++ [D] ++ (L.take m).drop m).length ((L.take m ++ [D] ++ (L.take m).drop m).map Value.string) := by
                  have e : (L.take m).drop m = [] := List.drop_eq_nil_of_le hal5
                  rw [e]
                  simpa using hown6
                clear hown6 hgrow6 hown5 hbl
                go_loopg [13, 15] (L.length - m) (fun g v x wr => ∃ i : Nat, m ≤ i ∧ i ≤ L.length ∧ g = L.length - i ∧ x = .int .i64 i ∧ wr.ownsRow w3.heap.size 9 1 v (L.take m ++ [D] ++ (L.take i).drop m).length ((L.take m ++ [D] ++ (L.take i).drop m).map Value.string) ∧ Below w3.heap.size w3 wr)
                case atStart => exact ⟨m, Nat.le_refl _, hm, rfl, rfl, hown6', hbl6⟩
                case round =>
                  clear hown6' hbl6 ib hlt2 hil hal
                  obtain ⟨i, hil1, hil2, rfl, rfl, hown, hbl⟩ := hrel
                  have hal : (L.take m ++ [D] ++ (L.take i).drop m).length ≤ i + 1 := by
                    simp only [List.length_append, List.length_take, List.length_drop, List.length_cons, List.length_nil]; omega
                  by_cases hlt2 : i < L.length
                  · obtain ⟨b, off, rfl, hbb, hc⟩ := hX3 (by omega)
                    have ck : wr.cell? ⟨b, off + i, none⟩ = some (.string (L.getD i ByteArray.empty)) := (hbl.cell (p := ⟨b, off + i, none⟩) hbb).trans (hc i (by omega))
                    have HS : Hid (L.take m ++ [D] ++ (L.take (i + 1)).drop m = (L.take m ++ [D] ++ (L.take i).drop m) ++ [L.getD i ByteArray.empty]) := by
                      show _ = _
                      rw [mid_snoc L m i ByteArray.empty hil1 hlt2]; simp
                    clear hc
                    generalize L.getD i ByteArray.empty = t at *
                    generalize L.take m ++ [D] ++ (L.take i).drop m = M at *
                    go_wp2_with (at_builtin; refine wpList_append_own _ rfl (.tmp 118) (.tmp 123) 22 rfl w3.heap.size 9 i0 (.string ByteArray.empty) 1 16 Tryd.underlying22 hi hz0 hz1 hz2 rfl (by decide) _ _ _ rfl (hown.alloc _) ⟨_, 0, none⟩ 1 1 [.string t] rfl rfl (one_cell _ _ _) (one_one _) (by unfold maxLen; omega) (by omega) (by have := hbl.size; simp; omega) ?_; intro v' w9 hown9 hgrow9 _)
                    have hbl9 := below_append hbl hbl.size hown hgrow9
                    have hown9' : w9.ownsRow w3.heap.size 9 1 v' (M ++ [t]).length ((M ++ [t]).map Value.string) := by simpa using hown9
                    clear hown9 hgrow9
                    go_roundg (L.length - (i + 1))
                    case measure => omega
                    case rel => exact ⟨i + 1, by omega, by omega, rfl, by go_num, by rw [HS.out]; exact hown9', hbl9⟩
                  · have ib : decide (i < L.length) = false := decide_eq_false hlt2
                    have eT : L.take i = L := List.take_of_length_le (by omega)
                    rw [eT] at hown hal
                    clear eT
                    obtain ⟨aE, cE, rfl⟩ := own_shape hown
                    have hXE := texts_own hown
                    have hSE : Small (L.take m ++ [D] ++ L.drop m) := small_append (small_append (small_take hS m) (small_one hD)) (small_drop hS m)
                    have eE : Hid (argsB name (L.take m ++ [D] ++ L.drop m) = argsB name (L.take m) ++ [words (blank ++ y)] ++ argsB name (L.drop m)) := by
                      show _ = _
                      rw [← HD.out]; exact args_ins name y _ _
                    have hEl : (L.take m ++ [D] ++ L.drop m).length ≤ 1048577 := by
                      simp only [List.length_append, List.length_take, List.length_drop, List.length_cons, List.length_nil]; omega
                    have hX5 := hX3.below hbl
                    have hT5 := hT3.below hbl
                    have hb5 := hb3.trans (hbl.mono hb3.size)
                    clear hown hX3 hT3 hb3 hbl hal
                    generalize hEE : L.take m ++ [D] ++ L.drop m = E at *
                    clear hEE HD hD
                    go_wp2_with fail
                    refine (argsOf_n aE _ cE E name _ rfl hEl hSE hn1 hXE hT5).mono ?_
                    rintro e w6 ⟨ao1, d1, rfl, G1, _, b6⟩
                    have hX6 := hX5.below b6
                    have hT6 := hT5.below b6
                    have hb6 := hb5.trans (b6.mono hb5.size)
                    have hSL : ∀ i, i < (argsB name E).length → ((argsB name E).getD i []).length ≤ 4194304 := argsB_small_at name E hSE
                    have lE := argsB_length_le name E
                    clear hX5 hT5 hb5 b6 hXE
                    go_wp2_with fail
                    refine (argsOf_n a3 _ _ L name w6 rfl (by omega) hS hn1 hX6 hT6).mono ?_
                    rintro e w7 ⟨ao2, d2, rfl, G2, _, b7⟩
                    have hX7 := hX6.below b7
                    have hb7 := hb6.trans (b7.mono hb6.size)
                    have G1' := G1.below b7
                    have EL : Hid (argsB name L = argsB name (L.take m) ++ argsB name (L.drop m)) := by
                      show _ = _
                      rw [← argsB_append, List.take_append_drop]
                    have lLC := argsB_length_le name L
                    have lLA := argsB_length_le name (L.take m)
                    have hLA : (argsB name (L.take m)).length ≤ (argsB name L).length := by rw [EL.out, List.length_append]; omega
                    clear hX6 hT6 hb6 b7 G1
                    go_wp2
                    go_loopg [18, 19] m (fun g z x wr => ∃ i q : Nat, i ≤ m ∧ g = m - i ∧ x = .int .i64 i ∧ z = .int .i64 (argsB name (L.take i)).length ∧ wr = w7.drewN q)
                    case atStart => exact ⟨0, 0, Nat.zero_le _, rfl, rfl, rfl, rfl⟩
                    case round =>
                      obtain ⟨i, q, hil, rfl, rfl, rfl, rfl⟩ := hrel
                      have hlA := argsB_length_le name (L.take i)
                      have hlA2 : (L.take i).length ≤ i := List.length_take_le _ _
                      by_cases hlt3 : i < m
                      · obtain ⟨b, off, rfl, hbb, hc⟩ := hX7 (by omega)
                        have ck := hc i (by omega)
                        have hts := hS i (by omega)
                        have hsn := argsB_snoc name (L.take i) (L.getD i ByteArray.empty)
                        rw [← take_snoc L i (by omega)] at hsn
                        have HS := hsn
                        clear hsn hc
                        generalize L.getD i ByteArray.empty = t at *
                        have cR := fun wx => rest_any t name wx hts hn1
                        cases hd : isDir t name with
                        | false =>
                          rw [hd] at HS cR
                          have HS' : Hid ((argsB name (L.take (i + 1))).length = (argsB name (L.take i)).length) := by
                            show _ = _
                            rw [HS]; simp
                          have cR' : Hid (∀ wx, Calls Tryd.prog 11 #[.string t, .string name] wx fun e w' => e = .returned (.tuple #[.string (restV t name), .bool false]) ∧ ∃ n, w' = wx.drewN n) := cR
                          clear HS cR hd
                          go_wp2_with (go_at_call 11; refine (cR'.out _).mono ?_; rintro e wq ⟨rfl, q1, rfl⟩)
                          go_roundg (m - (i + 1))
                          case measure => omega
                          case rel => exact ⟨i + 1, q + q1, by omega, rfl, by go_num, by rw [HS'.out], by simp⟩
                        | true =>
                          rw [hd] at HS cR
                          have HS' : Hid ((argsB name (L.take (i + 1))).length = (argsB name (L.take i)).length + 1) := by
                            show _ = _
                            rw [HS]; simp
                          have cR' : Hid (∀ wx, Calls Tryd.prog 11 #[.string t, .string name] wx fun e w' => e = .returned (.tuple #[.string (restV t name), .bool true]) ∧ ∃ n, w' = wx.drewN n) := cR
                          clear HS cR hd
                          go_wp2_with (go_at_call 11; refine (cR'.out _).mono ?_; rintro e wq ⟨rfl, q1, rfl⟩)
                          go_roundg (m - (i + 1))
                          case measure => omega
                          case rel => exact ⟨i + 1, q + q1, by omega, rfl, by go_num, by rw [HS'.out]; go_num, by simp⟩
                      · have ib : decide (i < m) = false := decide_eq_false hlt3
                        have eim : i = m := by omega
                        have G1q := G1'.below (bdrew (Below.refl _ _) q)
                        have G2q := G2.below (bdrew (Below.refl _ _) q)
                        have hbq := bdrew hb7 q
                        clear G1' G2 hb7 hX7 hlA hlA2
                        generalize w7.drewN q = w8 at *
                        have eAt : Hid ((argsB name (L.take i)).length = (argsB name (L.take m)).length) := by
                          show _ = _
                          rw [eim]
                        clear eim
                        have hw1 : ((⟨#[32]⟩ : ByteArray) ++ y).size ≤ 4194304 := by
                          have e1 : (⟨#[32]⟩ : ByteArray).data.toList.length = 1 := rfl
                          rw [← size_list, ByteArray.data_append, Array.toList_append, List.length_append, e1, size_list]
                          omega
                        have eB : (blank ++ y) = ((⟨#[32]⟩ : ByteArray) ++ y) := rfl
                        rw [eB] at eE
                        have P1 : Hid ((argsB name L).take (argsB name (L.take i)).length = argsB name (L.take m)) := by
                          show _ = _
                          rw [eAt.out, EL.out, List.take_left]
                        have P2 : Hid ((argsB name L).drop (argsB name (L.take i)).length = argsB name (L.drop m)) := by
                          show _ = _
                          rw [eAt.out, EL.out, List.drop_left]
                        have hTl : (argsB name (L.take i)).length ≤ (argsB name L).length := by rw [eAt.out]; exact hLA
                        have PE : Hid (argsB name E = (argsB name L).take (argsB name (L.take i)).length ++ [words ((⟨#[32]⟩ : ByteArray) ++ y)] ++ (argsB name L).drop (argsB name (L.take i)).length) := by
                          show _ = _
                          rw [P1.out, P2.out]
                          exact eE.out
                        clear P1 P2 eAt eB eE EL hLA lLA
                        generalize (argsB name (L.take i)).length = T at *
                        generalize argsB name L = LC at *
                        generalize argsB name E = LE at *
                        have tb : decide (LC.length < T) = false := decide_eq_false (by omega)
                        go_wp2_with (at_make; refine wpList_make_own _ rfl _ _ 24 rfl w8.heap.size 22 i2 (.slice none 0 0) 1 Tryd.underlying24 hi2 hy0 hy1 _ _ _ (LC.length + 1) rfl rfl (by omega) (by rw [hy2]; omega) (by unfold maxLen; omega) (Nat.le_refl _) ?_; intro w9 hown9 hgrow9)
                        go_loopg [22, 23] T (fun g v x wr => ∃ i : Nat, i ≤ T ∧ g = T - i ∧ x = .int .i64 i ∧ Grid wr w8.heap.size v (LC.take i) ∧ Below w8.heap.size w8 wr)
                        case atStart => exact ⟨0, Nat.zero_le _, rfl, rfl, ⟨[], rfl, hown9, fun i hi => by simp at hi⟩, (Below.refl _ _).grown hgrow9 (Nat.le_refl _) (fun k h => by cases h)⟩
                        case round =>
                          clear hown9 hgrow9 ib hlt3 hil
                          obtain ⟨i, hil, rfl, rfl, Gv, bv⟩ := hrel
                          by_cases hilt : i < T
                          · obtain ⟨gA, bo, dd, rfl, cA, inA⟩ := grid_at G2q (show i < LC.length by omega)
                            have gl := grid_lt G2q
                            have cA' : wr.cell? ⟨gA, i, none⟩ = some (.slice bo (LC.getD i []).length dd) := (bv.cell (p := ⟨gA, i, none⟩) gl).trans cA
                            have inA' := inA.below bv
                            have HT : Hid (LC.take (i + 1) = LC.take i ++ [LC.getD i []]) := take_snoc2 LC i (by omega)
                            have hal : (LC.take i).length ≤ i := List.length_take_le _ _
                            clear cA inA
                            generalize LC.getD i [] = M at *
                            obtain ⟨xs, hxl, hown, hinn⟩ := Gv
                            generalize LC.take i = LT at *
                            go_wp2_with (at_builtin; refine wpList_append_own _ rfl (.tmp 161) (.tmp 166) 24 rfl w8.heap.size 22 i2 (.slice none 0 0) 1 24 Tryd.underlying24 hi2 hy0 hy1 hy2 rfl (by decide) _ _ _ rfl (hown.alloc _) ⟨_, 0, none⟩ 1 1 [.slice bo M.length dd] rfl rfl (one_cell _ _ _) (slice_one _ _ _) (by unfold maxLen; omega) (by omega) (by have := bv.size; simp; omega) ?_; intro v' wz hownz hgrowz _)
                            have bvz := below_append bv bv.size hown hgrowz
                            have Gz := grid_push hxl hown hinn inA' hownz hgrowz
                            clear hownz hgrowz
                            go_roundg (T - (i + 1))
                            case measure => omega
                            case rel => exact ⟨i + 1, by omega, rfl, by go_num, by rw [HT.out]; exact Gz, bvz⟩
                          · have ib : decide (i < T) = false := decide_eq_false hilt
                            have eiT : i = T := by omega
                            rw [eiT] at Gv
                            clear eiT
                            go_wp2_with fail
                            refine (fields_shape ((⟨#[32]⟩ : ByteArray) ++ y) wr hw1).mono ?_
                            rintro e wf ⟨aw, cw, rfl, inW, bf⟩
                            have bv' := bv.trans (bf.mono bv.size)
                            obtain ⟨xs, hxl, hown, hinn⟩ := Gv.below bf
                            have hal : (LC.take T).length ≤ T := List.length_take_le _ _
                            clear Gv bf bv
                            generalize words ((⟨#[32]⟩ : ByteArray) ++ y) = Wd at *
                            go_wp2_with (at_builtin; refine wpList_append_own _ rfl (.tmp 168) (.tmp 172) 24 rfl w8.heap.size 22 i2 (.slice none 0 0) 1 24 Tryd.underlying24 hi2 hy0 hy1 hy2 rfl (by decide) _ _ _ rfl (hown.alloc _) ⟨_, 0, none⟩ 1 1 [.slice aw Wd.length cw] rfl rfl (one_cell _ _ _) (slice_one _ _ _) (by unfold maxLen; omega) (by omega) (by have := bv'.size; simp; omega) ?_; intro v' wz hownz hgrowz _)
                            have bvz := below_append bv' bv'.size hown hgrowz
                            have Gz := grid_push hxl hown hinn inW hownz hgrowz
                            have Gz' : Grid wz w8.heap.size v' (LC.take T ++ [Wd] ++ (LC.take T).drop T) := by
                              rw [List.drop_eq_nil_of_le hal, List.append_nil]; exact Gz
                            clear hownz hgrowz Gz hown hinn hxl bv' inW
                            go_loopg [22, 24] (LC.length - T) (fun g v x wr => ∃ i : Nat, T ≤ i ∧ i ≤ LC.length ∧ g = LC.length - i ∧ x = .int .i64 i ∧ Grid wr w8.heap.size v (LC.take T ++ [Wd] ++ (LC.take i).drop T) ∧ Below w8.heap.size w8 wr)
                            case atStart => exact ⟨T, Nat.le_refl _, hTl, rfl, rfl, Gz', bvz⟩
                            case round =>
                              clear Gz' bvz ib hilt hil
                              obtain ⟨i, hi1, hi2', rfl, rfl, Gv, bv⟩ := hrel
                              by_cases hilt : i < LC.length
                              · obtain ⟨gA, bo, dd, rfl, cA, inA⟩ := grid_at G2q hilt
                                have gl := grid_lt G2q
                                have cA' : wr.cell? ⟨gA, i, none⟩ = some (.slice bo (LC.getD i []).length dd) := (bv.cell (p := ⟨gA, i, none⟩) gl).trans cA
                                have inA' := inA.below bv
                                have HT : Hid (LC.take T ++ [Wd] ++ (LC.take (i + 1)).drop T = (LC.take T ++ [Wd] ++ (LC.take i).drop T) ++ [LC.getD i []]) := by
                                  show _ = _
                                  rw [mid_snoc LC T i [] hi1 hilt]; simp
                                have hal : (LC.take T ++ [Wd] ++ (LC.take i).drop T).length ≤ i + 1 := by
                                  simp only [List.length_append, List.length_take, List.length_drop, List.length_cons, List.length_nil]; omega
                                clear cA inA
                                generalize LC.getD i [] = M at *
                                obtain ⟨xs, hxl, hown, hinn⟩ := Gv
                                generalize LC.take T ++ [Wd] ++ (LC.take i).drop T = LT at *
                                go_wp2_with (at_builtin; refine wpList_append_own _ rfl (.tmp 181) (.tmp 186) 24 rfl w8.heap.size 22 i2 (.slice none 0 0) 1 24 Tryd.underlying24 hi2 hy0 hy1 hy2 rfl (by decide) _ _ _ rfl (hown.alloc _) ⟨_, 0, none⟩ 1 1 [.slice bo M.length dd] rfl rfl (one_cell _ _ _) (slice_one _ _ _) (by unfold maxLen; omega) (by omega) (by have := bv.size; simp; omega) ?_; intro v' wz hownz hgrowz _)
                                have bvz := below_append bv bv.size hown hgrowz
                                have Gz := grid_push hxl hown hinn inA' hownz hgrowz
                                clear hownz hgrowz
                                go_roundg (LC.length - (i + 1))
                                case measure => omega
                                case rel => exact ⟨i + 1, by omega, by omega, rfl, by go_num, by rw [HT.out]; exact Gz, bvz⟩
                              · have ib : decide (i < LC.length) = false := decide_eq_false hilt
                                rw [List.take_of_length_le (show LC.length ≤ i by omega), ← PE.out] at Gv
                                obtain ⟨ao4, d4, rfl⟩ := Gv.shape
                                have G1w := G1q.below bv
                                have hbw := hbq.trans (bv.mono hbq.size)
                                clear G1q G2q bv hbq
                                go_wp2_with fail
                                refine (eq_same ao1 ao4 d1 d4 _ _ LE wr (by omega) hSL G1w Gv).mono ?_
                                rintro e wo ⟨rfl, q1, rfl⟩
                                go_wp2_with fail
                                go_ret
                                exact ⟨rfl, bdrew hbw q1⟩

end Go.Proofs.Qxb6627834aDoor.ins
