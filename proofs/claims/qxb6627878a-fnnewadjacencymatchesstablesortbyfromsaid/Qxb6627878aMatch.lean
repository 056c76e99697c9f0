/-
  The walk of FnNewAdjacencyMatchesStableSortByFrom (function 3).
-/
import Derived.Test.Qxb6627878aAdj
import Derived.Test.Qxb6627878aSort
namespace Go.Proofs.Qxb6627878a.match_
open Go.RowKit Go.Proofs.Qxb6627878a.plain Go.Proofs.Qxb6627878a.leaf Go.Proofs.Qxb6627878a.adj Go.Proofs.Qxb6627878a.mrg Go.Proofs.Qxb6627878a.sort
set_option linter.unusedVariables false

theorem zz5 (n : Int) (a : Option Addr) (l c : Nat) (w : World) (hl : l ≤ maxLen) : Calls Try.prog 5 #[.int .i64 n, .slice a l c] w fun e w' => ∃ b : Bool, e = .returned (.bool b) ∧ w' = w := by
  unfold maxLen at hl
  by_cases h : (1048576 : Int) < l
  · have b1 : decide ((1048576 : Int) < l) = true := decide_eq_true h
    go_enter Try.func5, Try.ntmps5
    go_wp2
    go_ret
    exact ⟨false, rfl, rfl⟩
  · have b1 : decide ((1048576 : Int) < l) = false := decide_eq_false h
    go_enter Try.func5, Try.ntmps5
    go_wp2
    go_ret
    first | exact ⟨true, rfl, rfl⟩ | exact ⟨.inr rfl, rfl⟩
theorem zzstart (s t : Value) (w : World) : Calls Try.prog 9 #[.agg #[s, t]] w fun e w' => e = .returned s ∧ Below w.heap.size w w' := by
  go_enter Try.func9, Try.ntmps9
  go_wp2
  go_ret
  exact ⟨rfl, (Below.refl _ _).alloc (Nat.le_refl _) _⟩
theorem zzto (s t : Value) (w : World) : Calls Try.prog 10 #[.agg #[s, t]] w fun e w' => e = .returned t ∧ Below w.heap.size w w' := by
  go_enter Try.func10, Try.ntmps10
  go_wp2
  go_ret
  exact ⟨rfl, (Below.refl _ _).alloc (Nat.le_refl _) _⟩
theorem box_row (w : World) (s t : Value) : (w.alloc (.cells #[s, t] 26)).rowIs w.heap.size 26 2 (fun i => if i = 0 then s else t) := by
  refine ⟨#[s, t], heap_alloc_new _ _, rfl, fun i hi => ?_⟩
  match i, hi with
  | 0, _ => rfl
  | 1, _ => rfl
/-- One adjacency, and the box that it lies in. -/
structure Adj (wr : World) (n m : Nat) (es : List E) (g1 g2 q : Nat) (T : Nat → Int) : Prop where
  s : wr.rowIs g1 21 (n + 1) (fun v => .int .i32 (below es v : Nat))
  t : wr.rowIs g2 21 m (fun i => .int .i32 (T i))
  b : wr.rowIs q 26 2 (fun i => if i = 0 then .slice (some ⟨g1, 0, none⟩) (n + 1) (n + 1) else .slice (some ⟨g2, 0, none⟩) m m)
theorem Adj.step {wr w' : World} {n m : Nat} {es : List E} {g1 g2 q : Nat} {T : Nat → Int} (h : Adj wr n m es g1 g2 q T) (hb : Below wr.heap.size wr w') : Adj w' n m es g1 g2 q T :=
  ⟨below_rowIs h.s hb h.s.lt, below_rowIs h.t hb h.t.lt, below_rowIs h.b hb h.b.lt⟩
theorem Adj.drewN {wr : World} {n m : Nat} {es : List E} {g1 g2 q : Nat} {T : Nat → Int} (h : Adj wr n m es g1 g2 q T) (r : Nat) : Adj (wr.drewN r) n m es g1 g2 q T := ⟨h.s.of_block rfl, h.t.of_block rfl, h.b.of_block rfl⟩
theorem Adj.mk0 {wr : World} {n m : Nat} {es : List E} {g1 g2 : Nat} {T : Nat → Int} (hs : wr.rowIs g1 21 (n + 1) (fun v => .int .i32 (below es v : Nat))) (ht : wr.rowIs g2 21 m (fun i => .int .i32 (T i))) :
    Adj (wr.alloc (.cells #[.slice (some ⟨g1, 0, none⟩) (n + 1) (n + 1), .slice (some ⟨g2, 0, none⟩) m m] 26)) n m es g1 g2 wr.heap.size T := ⟨hs.alloc _, ht.alloc _, box_row _ _ _⟩
theorem Adj.c0 {wr : World} {n m : Nat} {es : List E} {g1 g2 q : Nat} {T : Nat → Int} (h : Adj wr n m es g1 g2 q T) : wr.cell? ⟨q, 0, none⟩ = some (.slice (some ⟨g1, 0, none⟩) (n + 1) (n + 1)) := by
  have := h.b.cell (i := 0) (by omega)
  simpa using this
theorem Adj.c1 {wr : World} {n m : Nat} {es : List E} {g1 g2 q : Nat} {T : Nat → Int} (h : Adj wr n m es g1 g2 q T) : wr.cell? ⟨q, 1, none⟩ = some (.slice (some ⟨g2, 0, none⟩) m m) := by
  have := h.b.cell (i := 1) (by omega)
  simpa using this

set_option maxHeartbeats 4000000 in
set_option maxRecDepth 100000 in
theorem match_any (n : Int) (a : Option Addr) (c : Nat) (es : List E) (w : World) (hm : es.length ≤ maxLen) (hlc : es.length ≤ c) (hF : Fits es) (hna : a = none → es = []) (hE : Edges w a es) :
    Calls Try.prog 3 #[.int .i64 n, .slice a es.length c] w fun e w' => e = .returned (.bool true) ∧ Below w.heap.size w w' := by
  go_enter Try.func3, Try.ntmps3
  go_wp2_with fail
  refine (zz5 n a es.length c w hm).mono ?_
  rintro _ w ⟨b, rfl, rfl⟩
  cases b
  · go_wp2
    go_ret
    exact ⟨rfl, Below.refl _ _⟩
  · unfold maxLen at hm
    by_cases h1 : (65536 : Int) < es.length
    · have b1 : decide ((65536 : Int) < es.length) = true := decide_eq_true h1
      go_wp2
      go_ret
      exact ⟨rfl, Below.refl _ _⟩
    · have b1 : decide ((65536 : Int) < es.length) = false := decide_eq_false h1
      by_cases h2 : n < 0
      · have b2 : decide (n < 0) = true := decide_eq_true h2
        go_wp2
        go_ret
        exact ⟨rfl, Below.refl _ _⟩
      · have b2 : decide (n < 0) = false := decide_eq_false h2
        by_cases h3 : 65536 < n
        · have b3 : decide (65536 < n) = true := decide_eq_true h3
          go_wp2
          go_ret
          exact ⟨rfl, Below.refl _ _⟩
        · have b3 : decide (65536 < n) = false := decide_eq_false h3
          obtain ⟨n, rfl⟩ := Int.eq_ofNat_of_zero_le (show 0 ≤ n by omega)
          have hl : es.length ≤ 65536 := by omega
          have hn : n ≤ 65536 := by omega
          go_wp2_with fail
          refine (froms n a c es w hn hl hF hE).mono ?_
          rintro _ w ⟨b, rfl, rfl, hin⟩
          cases b
          · go_wp2
            go_ret
            exact ⟨rfl, Below.refl _ _⟩
          · have hI := hin rfl
            clear hin h1 h2 h3
            go_wp2_with fail
            refine (toProject_any a c es w hl hna hE).mono ?_
            rintro _ wA ⟨ao, co, rfl, hEo, hbA⟩
            go_wp2_with fail
            refine (adj_any n ao co es wA hn hl hF hI hEo).mono ?_
            rintro _ wB ⟨g1, g2, T, rfl, hr1, hr2, hTo, hbB⟩
            have hb1 : Below w.heap.size w wB := hbA.trans (hbB.mono hbA.size)
            clear hEo hbB hbA
            have AA := Adj.mk0 hr1 hr2
            have hb2 := hb1.alloc hb1.size (Obj.cells #[.slice (some ⟨g1, 0, none⟩) (n + 1) (n + 1), .slice (some ⟨g2, 0, none⟩) es.length es.length] 26)
            clear hr1 hr2 hb1
            have u0 := AA.c0
            have u1 := AA.c1
            go_wp2_with fail
            refine (zzstart _ _ _).mono ?_
            rintro _ wF0 ⟨rfl, hb⟩
            replace AA := AA.step hb
            have hbz : Below w.heap.size w wF0 := hb2.trans (hb.mono hb2.size)
            clear hb hb2 u0 u1
            have u0 := AA.c0
            have u1 := AA.c1
            go_wp2_with fail
            refine (zzto _ _ _).mono ?_
            rintro _ wF1 ⟨rfl, hb⟩
            replace AA := AA.step hb
            have hby : Below w.heap.size w wF1 := hbz.trans (hb.mono hbz.size)
            clear hb hbz u0 u1
            go_wp2_with fail
            refine (sort_any a c es wF1 hl (hE.below hby)).mono ?_
            rintro _ wF2 ⟨gs, F, rfl, hS, hSt, hb⟩
            replace AA := AA.step hb
            have hbz : Below w.heap.size w wF2 := hby.trans (hb.mono hby.size)
            have TT : Hid (∀ i, i < es.length → T i = (F i).2) := fun i hi => by rw [st_to hSt hI (by rw [seg_length]; omega) hTo i hi, seg_getD F hi]
            have SB : Hid (∀ v j : Nat, j < es.length → ((F j).1 < (v : Int) ↔ j < below es v)) := fun v j hj => by
              have := sorted_below _ hSt.1 v j (by rw [seg_length]; omega)
              rwa [seg_getD F hj, st_below hSt (fun e he => (hI.mem e he).1)] at this
            have FF : Hid (∀ j, j < es.length → -2147483648 ≤ (F j).1 ∧ (F j).1 ≤ 2147483647) := fun j hj => by
              have hm : F j ∈ es := by
                refine st_mem hSt ?_
                rw [← seg_getD F hj, List.getD_eq_getElem?_getD, List.getElem?_eq_getElem (by rw [seg_length]; omega)]
                exact List.getElem_mem _
              have := hI.mem _ hm
              omega
            clear hb hby hSt
            go_wp2
            go_loopg [10] es.length (fun g x wr => ∃ i : Nat, i ≤ es.length ∧ g = es.length - i ∧ x = .int .i64 i ∧ Adj wr n es.length es g1 g2 wB.heap.size T ∧ ERow wr gs 33 es.length F ∧ Below w.heap.size w wr)
            case atStart => exact ⟨0, Nat.zero_le _, rfl, rfl, AA, hS, hbz⟩
            case round =>
              clear AA hS hbz
              obtain ⟨i, hi, rfl, rfl, AA, hS, hbz⟩ := hrel
              by_cases hlt : i < es.length
              · have c1 := AA.t.cell (i := i) hlt
                have c2 := hS.c1 hlt
                rw [TT.out i hlt] at c1
                generalize (F i).2 = tt at *
                have z1 : (i : Int) < (es.length : Int) := by omega
                go_wp2
                go_quiet (fail)
                go_wp2
                go_roundg (es.length - (i + 1))
                case measure => omega
                case rel => exact ⟨i + 1, by omega, rfl, by go_num, AA.drewN _, hS.of_block rfl, drewN_below hbz _⟩
              · have ib : decide (i < es.length) = false := decide_eq_false hlt
                go_wp2
                clear ib hlt hi
                go_loopg [12, 11] (n + 1) (fun g x y wr => ∃ v j : Nat, v ≤ n + 1 ∧ g = n + 1 - v ∧ x = .int .i64 v ∧ y = .int .i64 j ∧ Hid (j ≤ below es v) ∧ j ≤ es.length ∧ Adj wr n es.length es g1 g2 wB.heap.size T ∧ ERow wr gs 33 es.length F ∧ Below w.heap.size w wr)
                case atStart => exact ⟨0, 0, Nat.zero_le _, rfl, rfl, rfl, Nat.zero_le _, Nat.zero_le _, AA, hS, hbz⟩
                case round =>
                  clear AA hS hbz
                  obtain ⟨v, j, hv, rfl, rfl, rfl, hjb, hjl, AA, hS, hbz⟩ := hrel
                  by_cases hlt : v ≤ n
                  · go_wp2
                    go_loopg [11] (es.length - j) (fun g y wr => ∃ j : Nat, g = es.length - j ∧ y = .int .i64 j ∧ Hid (j ≤ below es v) ∧ j ≤ es.length ∧ Adj wr n es.length es g1 g2 wB.heap.size T ∧ ERow wr gs 33 es.length F ∧ Below w.heap.size w wr)
                    case atStart => exact ⟨j, rfl, rfl, hjb, hjl, AA, hS, hbz⟩
                    case round =>
                      clear AA hS hbz hjb hjl
                      obtain ⟨j, rfl, rfl, hjb, hjl, AA, hS, hbz⟩ := hrel
                      have bl := below_le es v
                      have cs := AA.s.cell (i := v) (by omega)
                      have z1 : (v : Int) < (n : Int) + 1 := by omega
                      by_cases hj : j < es.length
                      · have cf := hS.c0 hj
                        have ff := FF.out j hj
                        have sb := SB.out v j hj
                        have g1' : decide (j < es.length) = true := decide_eq_true hj
                        have z2 : (j : Int) < (es.length : Int) := by omega
                        by_cases hlv : (F j).1 < (v : Int)
                        · have g2' : decide ((F j).1 < (v : Int)) = true := decide_eq_true hlv
                          have hnx : Hid (j + 1 ≤ below es v) := sb.1 hlv
                          clear sb
                          generalize (F j).1 = y1 at *
                          go_wp2
                          go_roundg (es.length - (j + 1))
                          case measure => omega
                          case rel => exact ⟨j + 1, rfl, by go_num, hnx, by omega, AA, hS, hbz⟩
                        · have g2' : decide ((F j).1 < (v : Int)) = false := decide_eq_false hlv
                          have hje : j = below es v := by
                            have h1 := hjb.out
                            by_cases h2 : j < below es v
                            · exact absurd (sb.2 h2) hlv
                            · omega
                          rw [← hje] at cs
                          have hnx : Hid (j ≤ below es (v + 1)) := by
                            have := below_succ es v
                            show j ≤ _
                            omega
                          clear sb hje
                          generalize (F j).1 = y1 at *
                          go_wp2
                          go_roundg (n + 1 - (v + 1))
                          case measure => omega
                          case rel => exact ⟨v + 1, j, by omega, rfl, by go_num, rfl, hnx, hjl, AA, hS, hbz⟩
                      · have g1' : decide (j < es.length) = false := decide_eq_false hj
                        have hje : j = below es v := by
                          have h1 := hjb.out
                          omega
                        rw [← hje] at cs
                        have hnx : Hid (j ≤ below es (v + 1)) := by
                          have := below_succ es v
                          show j ≤ _
                          omega
                        clear hje
                        go_wp2
                        go_roundg (n + 1 - (v + 1))
                        case measure => omega
                        case rel => exact ⟨v + 1, j, by omega, rfl, by go_num, rfl, hnx, hjl, AA, hS, hbz⟩
                  · have vb : decide (v ≤ n) = false := decide_eq_false hlt
                    go_wp2
                    go_ret
                    exact ⟨rfl, hbz⟩

end Go.Proofs.Qxb6627878a.match_
