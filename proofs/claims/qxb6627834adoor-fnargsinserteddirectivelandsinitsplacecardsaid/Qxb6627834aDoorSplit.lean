/-
  The walk of FnArgsSplitAtAnyCutAndMatchesModel (function 3).
-/
import Derived.Test.Qxb6627834aDoorBytes
import Derived.Laws.CopyOwn
namespace Go.Proofs.Qxb6627834aDoor.split
open Go.RowKit Go.Proofs.Qxb6627834aDoor.plain Go.Proofs.Qxb6627834aDoor.fields Go.Proofs.Qxb6627834aDoor.grid Go.Proofs.Qxb6627834aDoor.args Go.Proofs.Qxb6627834aDoor.argsof Go.Proofs.Qxb6627834aDoor.eqargs Go.Proofs.Qxb6627834aDoor.bytes
set_option linter.unusedVariables false

theorem size9 : (Tryd.prog.info? 9).map (·.size) = some 1 := by kernel_rfl

/-- ZZArgsOf, the length named apart. -/
theorem argsOf_n (a : Option Addr) (n c : Nat) (L : List ByteArray) (name : ByteArray) (w : World) (hnl : L.length = n) (hL : L.length ≤ 1048577) (hS : Small L) (hn : name.size ≤ 1048576) (hX : Texts w a L) (hT : Tabs w) :
    Calls Tryd.prog 6 #[.slice a n c, .string name] w fun e w' => ∃ ao c2, e = .returned (.slice ao (argsB name L).length c2) ∧ Grid w' w.heap.size (.slice ao (argsB name L).length c2) (argsB name L) ∧ (argsB name L = [] → ao = none) ∧ Below w.heap.size w w' := by
  subst hnl
  refine (argsOf6 a c L name w hL hS hn hX hT).mono fun e w' ⟨v, he, hg, hv, hb⟩ => ?_
  obtain ⟨ao, c2, rfl⟩ := hg.shape
  refine ⟨ao, c2, he, hg, fun h => ?_, hb⟩
  have := hv h
  simp at this
  exact this.1

theorem copied {w2 : World} {g : Nat} {L : List ByteArray} {cur : List Value} (hl : cur.length = L.length) (h : Hid (w2.heap[g]? = some (.cells (splice cur 0 (L.map Value.string)).toArray 9 (0, 0)))) : Texts w2 (some ⟨g, 0, none⟩) L := by
  intro hp
  refine ⟨g, 0, rfl, lt_of_block h.out, fun i hi => ?_⟩
  have e : splice cur 0 (L.map Value.string) = L.map Value.string := by
    simp only [splice, List.take_zero, List.nil_append, Nat.zero_add, List.length_map]
    rw [List.drop_of_length_le (by omega), List.append_nil]
  have h' := h.out
  rw [e] at h'
  rw [Nat.zero_add, List.getD_eq_getElem?_getD, List.getElem?_eq_getElem hi]
  simp [World.cell?, h', hi]
theorem addr_add (b o j : Nat) : (⟨b, o, none⟩ : Addr).add j = ⟨b, o + j, none⟩ := by
  by_cases h : j = 0 <;> simp [Addr.add, h]
theorem made_row {w : World} {base g n : Nat} {xs : List Value} (h : w.ownsRow base 9 1 (.slice (some ⟨g, 0, none⟩) n n) n xs) : ∃ cur : List Value, w.heap[g]? = some (.cells cur.toArray 9 (0, 0)) ∧ cur.length = n := by
  rcases h.2 with ⟨h', _⟩ | ⟨g', cap, cur, h', _, hh, _, _, hs, _⟩
  · simp at h'
  · simp only [Value.slice.injEq, Option.some.injEq, Addr.mk.injEq, and_true, true_and] at h'
    obtain ⟨rfl, rfl⟩ := h'
    exact ⟨cur.toList, by simpa using hh, by simpa using hs⟩
theorem strings_one (L : List ByteArray) : ∀ v ∈ L.map Value.string, v.oneCell' = true := by
  intro u hu
  obtain ⟨_, _, rfl⟩ := List.mem_map.1 hu
  rfl
theorem texts_src {w w2 : World} {x : Addr} {L : List ByteArray} (h : Texts w (some x) L) (hb : Below w.heap.size w w2) : 0 < (L.map Value.string).length → ∃ ad, some x = some ad ∧ ∀ j v, (L.map Value.string)[j]? = some v → w2.cell? (ad.add j) = some v := by
  intro hp
  rw [List.length_map] at hp
  obtain ⟨b, off, hx, hlt, hc⟩ := h hp
  cases hx
  refine ⟨_, rfl, fun j v hv => ?_⟩
  have hj : j < L.length := by simpa using (List.getElem?_eq_some_iff.1 hv).1
  rw [addr_add, hb.cell (p := ⟨b, off + j, none⟩) hlt, hc j hj, ← hv, List.getElem?_map, List.getD_eq_getElem?_getD, List.getElem?_eq_getElem hj]
  rfl

/-- 'copy(zzc, texts)', zzc the row that make has just laid. -/
theorem copy_run {w w2 : World} {g : Nat} {x : Addr} {c : Nat} {L : List ByteArray} {cur : List Value} (hX : Texts w (some x) L) (hb2 : Below w.heap.size w w2) (hg : w.heap.size ≤ g) (hcur : w2.heap[g]? = some (.cells cur.toArray 9 (0, 0))) (hcl : cur.length = L.length) :
    ∃ w3, (Builtin.copy_ #[22, 22] 3 #[.slice (some ⟨g, 0, none⟩) L.length L.length, .slice (some x) L.length c]).run Tryd.prog w2 = .ok (.int .i64 L.length) w3 ∧ Texts w3 (some ⟨g, 0, none⟩) L ∧ Below w.heap.size w w3 := by
  by_cases h0 : L.length = 0
  · refine ⟨w2, ?_, fun h => by omega, hb2⟩
    have := run_copy_none (P := Tryd.prog) w2 22 22 3 9 (some ⟨g, 0, none⟩) (some x) L.length L.length L.length c Tryd.underlying22 size9 (by simp [h0])
    rw [this, h0]; rfl
  · obtain ⟨ad, hx, hsrc⟩ := texts_src hX hb2 (by rw [List.length_map]; omega)
    cases hx
    have hr := run_copy_row (P := Tryd.prog) w2 22 22 3 9 g 0 L.length L.length x L.length c cur.toArray 9 (L.map Value.string) Tryd.underlying22 size9 hcur (by simp) hsrc (by simp [hcl]) (strings_one _)
    have e : (List.take 0 cur.toArray.toList ++ L.map Value.string ++ List.drop (0 + (L.map Value.string).length) cur.toArray.toList) = splice cur 0 (L.map Value.string) := by simp [splice]
    rw [e, List.length_map] at hr
    exact ⟨_, hr, copied hcl (setRow_heap w2 g _ _ 9 _ hcur), below_setRow hb2 hg _⟩

theorem texts_take {w : World} {a : Option Addr} {L : List ByteArray} (h : Texts w a L) (m : Nat) : Texts w a (L.take m) := by
  intro hp
  rw [List.length_take] at hp
  obtain ⟨b, off, ha, hlt, hc⟩ := h (by omega)
  refine ⟨b, off, ha, hlt, fun i hi => ?_⟩
  rw [List.length_take] at hi
  rw [hc i (by omega), List.getD_eq_getElem?_getD, List.getD_eq_getElem?_getD, List.getElem?_take, if_pos (by omega)]
theorem small_take {L : List ByteArray} (h : Small L) (m : Nat) : Small (L.take m) := by
  intro i hi
  rw [List.length_take] at hi
  have := h i (by omega)
  rw [List.getD_eq_getElem?_getD] at this ⊢
  rw [List.getElem?_take, if_pos (by omega)]
  exact this
theorem texts_drop {w : World} {g n : Nat} {ao : Option Addr} {L : List ByteArray} (h : Texts w (some ⟨g, 0, none⟩) L) (m : Nat) (hao : m < L.length → ao = some ⟨g, m, none⟩) : Texts w ao (L.drop m) := by
  intro hp
  rw [List.length_drop] at hp
  obtain ⟨b, off, ha, hlt, hc⟩ := h (by omega)
  cases ha
  refine ⟨g, m, hao (by omega), hlt, fun i hi => ?_⟩
  rw [List.length_drop] at hi
  have := hc (m + i) (by omega)
  rw [Nat.zero_add] at this
  rw [this, List.getD_eq_getElem?_getD, List.getD_eq_getElem?_getD, List.getElem?_drop]
theorem small_drop {L : List ByteArray} (h : Small L) (m : Nat) : Small (L.drop m) := by
  intro i hi
  rw [List.length_drop] at hi
  have := h (m + i) (by omega)
  rw [List.getD_eq_getElem?_getD] at this ⊢
  rw [List.getElem?_drop]
  exact this

theorem argsB_small (name : ByteArray) : ∀ L : List ByteArray, Small L → ∀ l ∈ argsB name L, l.length ≤ 1048578
  | [], _, l, hl => by simp [argsB] at hl
  | t :: L, h, l, hl => by
    have ht : t.size ≤ 1048576 := h 0 (by simp)
    have hr : Small L := fun i hi => by simpa using h (i + 1) (by simpa using hi)
    rw [argsB, List.mem_append] at hl
    rcases hl with hl | hl
    · split at hl
      · simp at hl
        subst hl
        have := words_length_le (restV t name)
        have := restV_le t name ht
        omega
      · simp at hl
    · exact argsB_small name L hr l hl
theorem argsB_small_at (name : ByteArray) (L : List ByteArray) (h : Small L) : ∀ i, i < (argsB name L).length → ((argsB name L).getD i []).length ≤ 4194304 := by
  intro i hi
  have : (argsB name L).getD i [] ∈ argsB name L := by
    rw [List.getD_eq_getElem?_getD, List.getElem?_eq_getElem hi]
    exact List.getElem_mem hi
  have := argsB_small name L h _ this
  omega
theorem model_n (a : Option Addr) (n c : Nat) (L : List ByteArray) (name : ByteArray) (w : World) (hnl : L.length = n) (hL : L.length ≤ 1048577) (hS : Small L) (hn : name.size ≤ 1048576) (hX : Texts w a L) :
    Calls Tryd.prog 7 #[.slice a n c, .string name] w fun e w' => ∃ ao c2, e = .returned (.slice ao (argsB name L).length c2) ∧ Grid w' w.heap.size (.slice ao (argsB name L).length c2) (argsB name L) ∧ Below w.heap.size w w' := by
  subst hnl
  refine (model_any a c L name w hL hS hn hX).mono fun e w' ⟨v, he, hg, hb⟩ => ?_
  obtain ⟨ao, c2, rfl⟩ := hg.shape
  exact ⟨ao, c2, he, hg, hb⟩
theorem grid_lt {w : World} {base : Nat} {g n c : Nat} {LL : List (List ByteArray)} (h : Grid w base (.slice (some ⟨g, 0, none⟩) n c) LL) : g < w.heap.size := by
  obtain ⟨xs, _, hown, _⟩ := h
  rcases hown.2 with ⟨h', _⟩ | ⟨g', cap, cur, h', _, hh, _⟩
  · simp at h'
  · simp only [Value.slice.injEq, Option.some.injEq, Addr.mk.injEq, and_true] at h'
    obtain ⟨rfl, _⟩ := h'
    exact lt_of_block hh
theorem take_snoc2 (L : List (List ByteArray)) (k : Nat) (h : k < L.length) : L.take (k + 1) = L.take k ++ [L.getD k []] := by
  rw [List.take_add_one, List.getD_eq_getElem?_getD, List.getElem?_eq_getElem h]; rfl
theorem grid_some {w : World} {base : Nat} {ao : Option Addr} {n c : Nat} {LL : List (List ByteArray)} (h : Grid w base (.slice ao n c) LL) (hp : LL ≠ []) : ∃ g, ao = some ⟨g, 0, none⟩ := by
  obtain ⟨xs, _, hown, _⟩ := h
  rcases hown.2 with ⟨_, h0⟩ | ⟨g', cap, cur, h', _, hh, _⟩
  · exact absurd (List.eq_nil_of_length_eq_zero h0) hp
  · simp only [Value.slice.injEq] at h'
    exact ⟨g', h'.1⟩

theorem eql_nil (w : World) (l c : Nat) : (binOp .eql 24 (.slice none l c) (.slice none 0 0)).run Tryd.prog w = .ok (.bool true) w := by
  have := Lib.run_eql_slice_nil (P := Tryd.prog) w 24 22 none l c 0 0 Tryd.underlying24
  simpa using this
theorem eql_some (w : World) (a : Addr) (l c : Nat) : (binOp .eql 24 (.slice (some a) l c) (.slice none 0 0)).run Tryd.prog w = .ok (.bool false) w := by
  have := Lib.run_eql_slice_nil (P := Tryd.prog) w 24 22 (some a) l c 0 0 Tryd.underlying24
  simpa using this

set_option maxHeartbeats 8000000 in
set_option maxRecDepth 100000 in
theorem walk_some (x : Addr) (c : Nat) (L : List ByteArray) (name : ByteArray) (k : Int) (w : World) (hL : L.length ≤ 9223372036854775807) (hF : Fits L) (hn : name.size ≤ 9223372036854775807) (hX : Texts w (some x) L) (hT : Tabs w) :
    Calls Tryd.prog 3 #[.slice (some x) L.length c, .string name, .int .i64 k] w fun e w' => e = .returned (.bool true) ∧ Below w.heap.size w w' := by
  obtain ⟨i0, hi, hz0, hz1, hz2⟩ := info_parts Tryd.info9
  go_enter Tryd.func3, Tryd.ntmps3
  go_wp2_with fail
  refine (bytes5 (some x) c L name k w hL hF hn hX).mono ?_
  rintro e w1 ⟨b, rfl, rfl, hb⟩
  cases b with
  | false =>
    go_wp2
    go_ret
    exact ⟨rfl, Below.refl _ _⟩
  | true =>
    obtain ⟨hL1, hS, hn1⟩ := hb rfl
    clear hb hF hL hn
    go_wp2_with (first
      | (at_make; refine wpList_make_full _ rfl _ _ 22 rfl w1.heap.size 9 i0 (.string ByteArray.empty) 1 Tryd.underlying22 hi hz0 hz1 _ _ _ _ L.length rfl rfl rfl rfl (by rw [hz2]; omega) (by unfold maxLen; omega) (Nat.le_refl _) ?_; intro w2 hown2 hgrow2; have hb2 := (Below.refl w1.heap.size w1).grown hgrow2 (Nat.le_refl _) (fun k h => by cases h); obtain ⟨cur, hcur, hcl⟩ := made_row hown2; obtain ⟨w3, hrun3, hX3, hb3⟩ := copy_run (c := c) hX hb2 (Nat.le_refl _) hcur hcl))
    · go_ret
      exact ⟨rfl, hb3⟩
    · have hc3 : Hid (∀ i, i < L.length → w3.cell? ⟨w1.heap.size, i, none⟩ = some (.string (L.getD i ByteArray.empty))) := by
        intro i hi
        obtain ⟨b, off, h1, _, h2⟩ := hX3 (by omega)
        cases h1
        have := h2 i hi
        rw [Nat.zero_add] at this
        exact this
      have hT3 := hT.below hb3
      clear hown2 hgrow2 hb2 hcur hcl hrun3 hX hT hz0 hz1 hz2 hi
      go_loopg [8, 9] L.length (fun g z y wr => ∃ j s : Nat, j ≤ L.length ∧ g = L.length - j ∧ z = .int .i64 s ∧ s ≤ 1048576 ∧ y = .int .i64 j ∧ w3 = wr)
      case atStart => exact ⟨0, 16 + name.size, Nat.zero_le _, rfl, by go_num, by omega, rfl, rfl⟩
      case round =>
        obtain ⟨j, s, hj, rfl, rfl, hs, rfl, rfl⟩ := hrel
        by_cases hlt : j < L.length
        · have cj := hc3.out j hlt
          have hsj := hS j hlt
          generalize L.getD j ByteArray.empty = t at *
          by_cases h3 : s + (16 + t.size) ≤ 1048576
          · go_wp2
            go_roundg (L.length - (j + 1))
            case measure => omega
            case rel => exact ⟨j + 1, s + (16 + t.size), by omega, rfl, by go_num, h3, by go_num, rfl⟩
          · go_wp2
            go_ret
            exact ⟨rfl, hb3⟩
        · have jb : decide (j < L.length) = false := decide_eq_false hlt
          by_cases hk : k < 0 ∨ (L.length : Int) < k
          · go_wp2
            all_goals
              go_ret
              exact ⟨rfl, hb3⟩
          · obtain ⟨m, rfl⟩ := Int.eq_ofNat_of_zero_le (show 0 ≤ k by omega)
            have hm : m ≤ L.length := by omega
            have kb1 : decide ((m : Int) < 0) = false := decide_eq_false (by omega)
            have kb2 : decide (L.length < m) = false := decide_eq_false (by omega)
            clear hk
            go_wp2_with fail
            refine (argsOf_n _ _ _ L name w3 rfl (by omega) hS hn1 hX3 hT3).mono ?_
            rintro e w4 ⟨ao1, d1, rfl, G1, N1, b4⟩
            have HN1 : Hid (argsB name L = [] → ao1 = none) := N1
            clear N1
            go_wp2_with fail
            have hX4 := hX3.below b4
            have hT4 := hT3.below b4
            have hb4 := hb3.trans (b4.mono hb3.size)
            refine (argsOf_n _ _ _ (L.take m) name w4 (by rw [List.length_take]; omega) (by rw [List.length_take]; omega) (small_take hS m) hn1 (texts_take hX4 m) hT4).mono ?_
            rintro e w5 ⟨ao2, d2, rfl, G2, _, b5⟩
            have hX5 := hX4.below b5
            have hT5 := hT4.below b5
            have hb5 := hb4.trans (b5.mono hb4.size)
            have E : Hid (argsB name L = argsB name (L.take m) ++ argsB name (L.drop m)) := by
              show _ = _
              rw [← argsB_append, List.take_append_drop]
            have hSL := argsB_small_at name L hS
            have l1 := argsB_length_le name (L.take m)
            have l2 := argsB_length_le name (L.drop m)
            rw [List.length_take] at l1
            rw [List.length_drop] at l2
            obtain ⟨i2, hi2, hy0, hy1, hy2⟩ := info_parts Tryd.info22
            go_wp2_with fail
            all_goals
              refine (argsOf_n _ _ _ (L.drop m) name w5 (by first | (rw [List.length_drop]; done) | (rw [List.length_drop]; omega)) (by rw [List.length_drop]; omega) (small_drop hS m) hn1 (texts_drop (n := 0) hX5 m (fun hh => by first | rfl | (exfalso; omega))) hT5).mono ?_
              rintro e w6 ⟨ao3, d3, rfl, G3, _, b6⟩
              have hX6 := hX5.below b6
              have hb6 := hb5.trans (b6.mono hb5.size)
              have G1' := ((G1.below b5).below b6)
              have G2' := G2.below b6
              clear G1 G2 hX3 hX4 hX5 hT3 hT4 hT5 b4 b5 b6 hb3 hb4 hb5
              generalize argsB name (L.take m) = LA at *
              generalize argsB name (L.drop m) = LB at *
              generalize hLC : argsB name L = LC at *
              have HLC : Hid (argsB name L = LC) := hLC
              clear hLC
              go_wp2_with (at_make; refine wpList_make_own _ rfl _ _ 24 rfl w6.heap.size 22 i2 (.slice none 0 0) 1 Tryd.underlying24 hi2 hy0 hy1 _ _ _ (LA.length + LB.length) rfl rfl (by omega) (by rw [hy2]; omega) (by unfold maxLen; omega) (Nat.le_refl _) ?_; intro w7 hown7 hgrow7)
              go_loopg [13, 14] LA.length (fun g v y wr => ∃ i : Nat, i ≤ LA.length ∧ g = LA.length - i ∧ y = .int .i64 i ∧ Grid wr w6.heap.size v (LA.take i) ∧ Below w6.heap.size w6 wr)
              case atStart => exact ⟨0, Nat.zero_le _, rfl, rfl, ⟨[], rfl, hown7, fun i hi => by simp at hi⟩, (Below.refl _ _).grown hgrow7 (Nat.le_refl _) (fun k h => by cases h)⟩
              case round =>
                clear hown7 hgrow7
                obtain ⟨i, hil, rfl, rfl, Gv, bv⟩ := hrel
                by_cases hilt : i < LA.length
                · obtain ⟨gA, bo, dd, rfl, cA, inA⟩ := grid_at G2' hilt
                  have gl := grid_lt G2'
                  have cA' : wr.cell? ⟨gA, i, none⟩ = some (.slice bo (LA.getD i []).length dd) := (bv.cell (p := ⟨gA, i, none⟩) gl).trans cA
                  have inA' := inA.below bv
                  have HT : Hid (LA.take (i + 1) = LA.take i ++ [LA.getD i []]) := take_snoc2 LA i hilt
                  have hal : (LA.take i).length ≤ i := List.length_take_le _ _
                  clear cA inA
                  generalize LA.getD i [] = M at *
                  obtain ⟨xs, hxl, hown, hinn⟩ := Gv
                  generalize LA.take i = LT at *
                  go_wp2_with (at_builtin; refine wpList_append_own _ rfl (.tmp 95) (.tmp 100) 24 rfl w6.heap.size 22 i2 (.slice none 0 0) 1 24 Tryd.underlying24 hi2 hy0 hy1 hy2 rfl (by decide) _ _ _ rfl (hown.alloc _) ⟨_, 0, none⟩ 1 1 [.slice bo M.length dd] rfl rfl (one_cell _ _ _) (slice_one _ _ _) (by unfold maxLen; omega) (by omega) (by have := bv.size; simp; omega) ?_; intro v' w9 hown9 hgrow9 _)
                  have bv9 := below_append bv bv.size hown hgrow9
                  have G9 := grid_push hxl hown hinn inA' hown9 hgrow9
                  clear hown9 hgrow9
                  go_roundg (LA.length - (i + 1))
                  case measure => omega
                  case rel => exact ⟨i + 1, by omega, rfl, by go_num, by rw [HT.out]; exact G9, bv9⟩
                · have HE : Hid (LA.take i = LA) := List.take_of_length_le (by omega)
                  have ib : decide (i < LA.length) = false := decide_eq_false hilt
                  have Gv' : Grid wr w6.heap.size u13 LA := by rw [HE.out] at Gv; exact Gv
                  clear Gv
                  go_wp2
                  go_loopg [13, 15] LB.length (fun g v y wr => ∃ i : Nat, i ≤ LB.length ∧ g = LB.length - i ∧ y = .int .i64 i ∧ Grid wr w6.heap.size v (LA ++ LB.take i) ∧ Below w6.heap.size w6 wr)
                  case atStart => exact ⟨0, Nat.zero_le _, rfl, rfl, by simpa using Gv', bv⟩
                  case round =>
                    clear Gv' bv HE ib hilt hil
                    obtain ⟨i, hil, rfl, rfl, Gv, bv⟩ := hrel
                    by_cases hilt : i < LB.length
                    · try (exfalso; omega)
                      all_goals
                        obtain ⟨gA, bo, dd, rfl, cA, inA⟩ := grid_at G3 hilt
                        have gl := grid_lt G3
                        have cA' : wr.cell? ⟨gA, i, none⟩ = some (.slice bo (LB.getD i []).length dd) := (bv.cell (p := ⟨gA, i, none⟩) gl).trans cA
                        have inA' := inA.below bv
                        have HT : Hid (LA ++ LB.take (i + 1) = (LA ++ LB.take i) ++ [LB.getD i []]) := by
                          show _ = _
                          rw [take_snoc2 LB i hilt, List.append_assoc]
                        have hal : (LA ++ LB.take i).length ≤ LA.length + i := by rw [List.length_append, List.length_take]; omega
                        clear cA inA
                        generalize LB.getD i [] = M at *
                        obtain ⟨xs, hxl, hown, hinn⟩ := Gv
                        generalize LA ++ LB.take i = LT at *
                        go_wp2_with (at_builtin; refine wpList_append_own _ rfl (.tmp 108) (.tmp 113) 24 rfl w6.heap.size 22 i2 (.slice none 0 0) 1 24 Tryd.underlying24 hi2 hy0 hy1 hy2 rfl (by decide) _ _ _ rfl (hown.alloc _) ⟨_, 0, none⟩ 1 1 [.slice bo M.length dd] rfl rfl (one_cell _ _ _) (slice_one _ _ _) (by unfold maxLen; omega) (by omega) (by have := bv.size; simp; omega) ?_; intro v' w9 hown9 hgrow9 _)
                        have bv9 := below_append bv bv.size hown hgrow9
                        have G9 := grid_push hxl hown hinn inA' hown9 hgrow9
                        clear hown9 hgrow9
                        go_roundg (LB.length - (i + 1))
                        case measure => omega
                        case rel => exact ⟨i + 1, by omega, rfl, by go_num, by rw [HT.out]; exact G9, bv9⟩
                    · have HE : LA ++ LB.take i = LC := by rw [List.take_of_length_le (by omega)]; exact E.out.symm
                      have ib : decide (i < LB.length) = false := decide_eq_false hilt
                      rw [HE] at Gv
                      clear HE
                      obtain ⟨ao4, d4, rfl⟩ := Gv.shape
                      have hX7 := hX6.below bv
                      have G1w := G1'.below bv
                      have hbw := hb6.trans (bv.mono hb6.size)
                      clear G1' G2' G3 bv hX6 hb6
                      go_wp2_with fail
                      refine (model_n _ _ _ L name wr (by omega) (by omega) hS hn1 hX7).mono ?_
                      rw [HLC.out]
                      rintro e w8 ⟨ao5, d5, rfl, G5, b8⟩
                      have G1x := G1w.below b8
                      have G4x := Gv.below b8
                      have hbx := hbw.trans (b8.mono hbw.size)
                      clear G1w Gv b8 hbw hX7
                      have lc : LC.length ≤ 1048576 := by
                        have := congrArg List.length E.out
                        rw [List.length_append] at this
                        omega
                      go_wp2_with (go_at_call 8; refine (argsNil name _).mono ?_; rintro e wn ⟨rfl, rfl⟩)
                      refine (eq_same ao1 ao5 d1 d5 _ _ LC wn (by omega) hSL G1x G5).mono ?_
                      rintro e wo ⟨rfl, q1, rfl⟩
                      have G1y := G1x.below (bdrew (Below.refl _ _) q1)
                      have G4y := G4x.below (bdrew (Below.refl _ _) q1)
                      have hby := bdrew hbx q1
                      clear G1x G4x hbx G5
                      generalize wn.drewN q1 = wz at *
                      have qn := eql_nil
                      have qs := eql_some
                      by_cases h0 : LC = []
                      · have hn1' := HN1.out h0
                        subst hn1'
                        subst h0
                        go_wp2_with fail
                        refine (eq_same none ao4 d1 d4 _ _ [] wz (Nat.zero_le _) (fun i hi => by simp at hi) G1y G4y).mono ?_
                        rintro e wo ⟨rfl, q2, rfl⟩
                        go_wp2_with fail
                        go_ret
                        exact ⟨rfl, bdrew hby q2⟩
                      · obtain ⟨g9, hg9⟩ := grid_some G1y h0
                        subst hg9
                        have l0 : 0 < LC.length := List.length_pos_iff.2 h0
                        have lb : ((LC.length : Int) == 0) = false := by rw [beq_eq_false_iff_ne]; omega
                        go_wp2_with fail
                        refine (eq_same (some ⟨g9, 0, none⟩) ao4 d1 d4 _ _ LC wz (by omega) hSL G1y G4y).mono ?_
                        rintro e wo ⟨rfl, q2, rfl⟩
                        go_wp2_with fail
                        go_ret
                        exact ⟨rfl, bdrew hby q2⟩

theorem texts_nil (w : World) (a : Option Addr) : Texts w a [] := fun h => by simp at h
theorem small_nil : Small [] := fun i h => by simp at h

/-- A nil grid and another of no content. -/
theorem grid_nil_of {w : World} {base : Nat} {ao : Option Addr} {n c : Nat} (h : Grid w base (.slice ao n c) []) : n = 0 := by
  obtain ⟨ao', c', h'⟩ := h.shape
  simp at h'
  exact h'.2.1

theorem argsOf_nil (name : ByteArray) (w : World) (hn : name.size ≤ 1048576) (hT : Tabs w) :
    Calls Tryd.prog 6 #[.slice none 0 0, .string name] w fun e w' => e = .returned (.slice none 0 0) ∧ Below w.heap.size w w' := by
  refine (argsOf6 none 0 [] name w (Nat.zero_le _) small_nil hn (texts_nil _ _) hT).mono fun e w' ⟨v, he, _, hv, hb⟩ => ?_
  rw [hv rfl] at he
  exact ⟨he, hb⟩
theorem model_nil (name : ByteArray) (w : World) (hn : name.size ≤ 1048576) :
    Calls Tryd.prog 7 #[.slice none 0 0, .string name] w fun e w' => ∃ ao c2, e = .returned (.slice ao 0 c2) ∧ Grid w' w.heap.size (.slice ao 0 c2) [] ∧ Below w.heap.size w w' :=
  model_n none 0 0 [] name w rfl (Nat.zero_le _) small_nil hn (texts_nil _ _)

set_option maxHeartbeats 8000000 in
set_option maxRecDepth 100000 in
theorem walk_none (name : ByteArray) (k : Int) (w : World) (hn : name.size ≤ 9223372036854775807) (hT : Tabs w) :
    Calls Tryd.prog 3 #[.slice none 0 0, .string name, .int .i64 k] w fun e w' => e = .returned (.bool true) ∧ Below w.heap.size w w' := by
  obtain ⟨i2, hi2, hy0, hy1, hy2⟩ := info_parts Tryd.info22
  go_enter Tryd.func3, Tryd.ntmps3
  go_wp2_with fail
  refine (bytes5 none 0 [] name k w (Nat.zero_le _) (fun i h => by simp at h) hn (texts_nil _ _)).mono ?_
  rintro e w1 ⟨b, rfl, rfl, hb⟩
  cases b with
  | false =>
    go_wp2
    go_ret
    exact ⟨rfl, Below.refl _ _⟩
  | true =>
    obtain ⟨_, _, hn1⟩ := hb rfl
    clear hb hn
    by_cases ht : 16 + name.size ≤ 1048576
    · go_wp2
      refine wp_loop_rounds 1 ?_
      rw [rounds_succ]
      by_cases hk : k < 0 ∨ 0 < k
      · go_wp2
        all_goals
          go_ret
          exact ⟨rfl, Below.refl _ _⟩
      · have hk0 : k = 0 := by omega
        subst hk0
        go_wp2_with fail
        refine (argsOf_nil name _ hn1 hT).mono ?_
        rintro e w2 ⟨rfl, b2⟩
        have hT2 := hT.below b2
        go_wp2_with fail
        refine (argsOf_nil name _ hn1 hT2).mono ?_
        rintro e w3 ⟨rfl, b3⟩
        have hT3 := hT2.below b3
        have hb3 := b2.trans (b3.mono b2.size)
        go_wp2_with fail
        refine (argsOf_nil name _ hn1 hT3).mono ?_
        rintro e w4 ⟨rfl, b4⟩
        have hb4 := hb3.trans (b4.mono hb3.size)
        clear hT hT2 hT3 b2 b3 b4 hb3
        go_wp2_with (at_make; refine wpList_make_own _ rfl _ _ 24 rfl w4.heap.size 22 i2 (.slice none 0 0) 1 Tryd.underlying24 hi2 hy0 hy1 _ _ _ 0 rfl rfl (by first | rfl | omega) (by omega) (by unfold maxLen; omega) (Nat.le_refl _) ?_; intro w5 hown5 hgrow5)
        have G5 : Grid w5 w4.heap.size (.slice (some ⟨w4.heap.size, 0, none⟩) 0 0) [] := ⟨[], rfl, hown5, fun i hi => by simp at hi⟩
        have hb5 := hb4.grown hgrow5 hb4.size (fun k h => by cases h)
        clear hown5 hgrow5 hb4
        refine wp_loop_rounds 1 ?_
        rw [rounds_succ]
        go_wp2
        refine wp_loop_rounds 1 ?_
        rw [rounds_succ]
        go_wp2_with fail
        refine (model_nil name _ hn1).mono ?_
        rintro e w6 ⟨ao5, d5, rfl, G6, b6⟩
        have hb6 := hb5.trans (b6.mono hb5.size)
        have G5' := G5.below b6
        clear G5 b6 hb5
        have qn := eql_nil
        go_wp2_with (go_at_call 8; refine (argsNil name _).mono ?_; rintro e wn ⟨rfl, rfl⟩)
        refine (eq_same none ao5 0 d5 0 _ [] _ (Nat.zero_le _) (fun i hi => by simp at hi) (Grid.nil _ _) G6).mono ?_
        rintro e wo ⟨rfl, q1, rfl⟩
        have hby := bdrew hb6 q1
        have G5y := G5'.below (bdrew (Below.refl _ _) q1)
        clear hb6 G5' G6
        generalize World.drewN _ q1 = wz at *
        go_wp2_with fail
        refine (eq_same none (some ⟨w4.heap.size, 0, none⟩) 0 0 0 _ [] _ (Nat.zero_le _) (fun i hi => by simp at hi) (Grid.nil _ _) G5y).mono ?_
        rintro e wo ⟨rfl, q2, rfl⟩
        go_wp2_with fail
        go_ret
        exact ⟨rfl, bdrew hby q2⟩
    · go_wp2
      go_ret
      exact ⟨rfl, Below.refl _ _⟩

end Go.Proofs.Qxb6627834aDoor.split
