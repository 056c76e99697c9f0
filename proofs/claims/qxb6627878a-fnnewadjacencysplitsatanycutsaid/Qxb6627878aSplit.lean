/-
  The walk of FnNewAdjacencySplitsAtAnyCut (function 4).
-/
import Derived.Test.Qxb6627878aAdj
namespace Go.Proofs.Qxb6627878a.split
open Go.RowKit Go.Proofs.Qxb6627878a.plain Go.Proofs.Qxb6627878a.leaf Go.Proofs.Qxb6627878a.adj
set_option linter.unusedVariables false

theorem zz12 (n k : Int) (a : Option Addr) (l c : Nat) (w : World) (hl : l ≤ maxLen) : Calls Try.prog 12 #[.int .i64 n, .slice a l c, .int .i64 k] w fun e w' => ∃ b : Bool, e = .returned (.bool b) ∧ w' = w := by
  unfold maxLen at hl
  by_cases h : (1048576 : Int) < l
  · have b1 : decide ((1048576 : Int) < l) = true := decide_eq_true h
    go_enter Try.func12, Try.ntmps12
    go_wp2
    go_ret
    exact ⟨false, rfl, rfl⟩
  · have b1 : decide ((1048576 : Int) < l) = false := decide_eq_false h
    go_enter Try.func12, Try.ntmps12
    go_wp2
    go_ret
    first | exact ⟨true, rfl, rfl⟩ | exact ⟨.inr rfl, rfl⟩
theorem zzstart (s t : Value) (w : World) : Calls Try.prog 9 #[.agg #[s, t]] w fun e w' => e = .returned s ∧ Below w.heap.size w w' := by
  go_enter Try.func9, Try.ntmps9
  go_wp2
  go_ret
  exact ⟨rfl, (Below.refl _ _).alloc (Nat.le_refl _) _⟩
theorem zzto (s t : Value) (w : World) : Calls Try.prog 10 #[.agg #[s, t]] w fun e w' => e = .returned t ∧ Below w.heap.size w w' := by
  go_enter Try.func10, Try.ntmps10
  go_wp2
  go_ret
  exact ⟨rfl, (Below.refl _ _).alloc (Nat.le_refl _) _⟩

/-- toProject, the length by its own name. -/
theorem toProject_len (l : Nat) (a : Option Addr) (c : Nat) (es : List E) (w : World) (hle : es.length = l) (hl : l ≤ 65536) (hn : a = none → es = []) (hE : Edges w a es) :
    Calls Try.prog 8 #[.slice a l c] w fun e w' => ∃ ao cc, e = .returned (.slice ao l cc) ∧ Edges w' ao es ∧ Below w.heap.size w w' := by
  subst hle; exact toProject_any a c es w hl hn hE
theorem adj_len (n l : Nat) (a : Option Addr) (c : Nat) (es : List E) (w : World) (hle : es.length = l) (hn : n ≤ 65536) (hl : l ≤ 65536) (hF : Fits es) (hI : In n es) (hE : Edges w a es) :
    Calls Try.prog 7 #[.int .i64 n, .slice a l c] w fun e w' => ∃ g1 g2 T, e = .returned (.agg #[.slice (some ⟨g1, 0, none⟩) (n + 1) (n + 1), .slice (some ⟨g2, 0, none⟩) l l]) ∧
      w'.rowIs g1 21 (n + 1) (fun v => .int .i32 (below es v : Nat)) ∧ w'.rowIs g2 21 l (fun i => .int .i32 (T i)) ∧ ToOk es n l T ∧ Below w.heap.size w w' := by
  subst hle; exact adj_any n a c es w hn hl hF hI hE

theorem edges_take {w : World} {a : Option Addr} {es : List E} (h : Edges w a es) (k : Nat) (hk : k ≤ es.length) : Edges w a (es.take k) := by
  intro hp
  rw [List.length_take] at hp
  obtain ⟨b, off, ha, hb, hc⟩ := h (by omega)
  refine ⟨b, off, ha, hb, fun i hi => ?_⟩
  rw [List.length_take] at hi
  have := hc i (by omega)
  rw [List.getD_eq_getElem?_getD, List.getElem?_take, if_pos (by omega), ← List.getD_eq_getElem?_getD]
  exact this
theorem edges_drop {w : World} {a : Option Addr} {es : List E} (h : Edges w a es) (k : Nat) : Edges w (Option.map (fun x => x.add (k * 2)) a) (es.drop k) := by
  intro hp
  rw [List.length_drop] at hp
  obtain ⟨b, off, rfl, hb, hc⟩ := h (by omega)
  have ha : Addr.add ⟨b, off, none⟩ (k * 2) = ⟨b, off + k * 2, none⟩ := by
    by_cases e : k * 2 = 0
    · simp [Addr.add, e]
    · simp only [Addr.add, if_neg e]
  refine ⟨b, off + k * 2, by simp [ha], hb, fun i hi => ?_⟩
  rw [List.length_drop] at hi
  have := hc (k + i) (by omega)
  rw [List.getD_eq_getElem?_getD, List.getElem?_drop, ← List.getD_eq_getElem?_getD, Nat.add_assoc off (k * 2) (i * 2), ← Nat.add_mul]
  exact this
theorem fits_of {es : List E} (h : ∀ e ∈ es, (-2147483648 ≤ e.1 ∧ e.1 ≤ 2147483647) ∧ (-2147483648 ≤ e.2 ∧ e.2 ≤ 2147483647)) : Fits es := by
  intro i hi
  rw [List.getD_eq_getElem?_getD, List.getElem?_eq_getElem hi]
  exact h _ (List.getElem_mem hi)
theorem fits_mem {es : List E} (h : Fits es) : ∀ e ∈ es, (-2147483648 ≤ e.1 ∧ e.1 ≤ 2147483647) ∧ (-2147483648 ≤ e.2 ∧ e.2 ≤ 2147483647) := by
  intro e he
  obtain ⟨i, hi, rfl⟩ := List.getElem_of_mem he
  have := h i hi
  rw [List.getD_eq_getElem?_getD, List.getElem?_eq_getElem hi] at this
  exact this

theorem box_row (w : World) (s t : Value) : (w.alloc (.cells #[s, t] 26)).rowIs w.heap.size 26 2 (fun i => if i = 0 then s else t) := by
  refine ⟨#[s, t], heap_alloc_new _ _, rfl, fun i hi => ?_⟩
  match i, hi with
  | 0, _ => rfl
  | 1, _ => rfl

/-- One adjacency, and the box that it lies in. -/
structure Adj (wr : World) (n m : Nat) (es : List E) (g1 g2 q : Nat) (T : Nat → Int) : Prop where
  s : wr.rowIs g1 21 (n + 1) (fun v => .int .i32 (below es v : Nat))
  t : wr.rowIs g2 21 m (fun i => .int .i32 (T i))
  b : wr.rowIs q 26 2 (fun i => if i = 0 then .slice (some ⟨g1, 0, none⟩) (n + 1) (n + 1) else .slice (some ⟨g2, 0, none⟩) m m)
theorem Adj.step {wr w' : World} {n m : Nat} {es : List E} {g1 g2 q : Nat} {T : Nat → Int} (h : Adj wr n m es g1 g2 q T) (hb : Below wr.heap.size wr w') : Adj w' n m es g1 g2 q T :=
  ⟨below_rowIs h.s hb h.s.lt, below_rowIs h.t hb h.t.lt, below_rowIs h.b hb h.b.lt⟩
theorem Adj.drew {wr : World} {n m : Nat} {es : List E} {g1 g2 q : Nat} {T : Nat → Int} (h : Adj wr n m es g1 g2 q T) : Adj wr.drew n m es g1 g2 q T := ⟨h.s.drew, h.t.drew, h.b.drew⟩
theorem drewN_below {B : Nat} {a w : World} (h : Below B a w) (q : Nat) : Below B a (w.drewN q) := ⟨h.os, h.tape, h.output, h.size, h.block⟩
theorem Adj.drewN {wr : World} {n m : Nat} {es : List E} {g1 g2 q : Nat} {T : Nat → Int} (h : Adj wr n m es g1 g2 q T) (r : Nat) : Adj (wr.drewN r) n m es g1 g2 q T := ⟨h.s.of_block rfl, h.t.of_block rfl, h.b.of_block rfl⟩
theorem okSpan_int (lo hi n : Int) (w : World) (h1 : 0 ≤ lo) (h2 : lo ≤ hi) (h3 : hi ≤ n) (h4 : hi ≤ 65536) (h5 : n ≤ 65536) :
    Calls Try.prog 13 #[.int .i32 lo, .int .i32 hi, .int .i64 n] w fun e w' => e = .returned (.bool true) ∧ w' = w := by
  obtain ⟨m, rfl⟩ := Int.eq_ofNat_of_zero_le (show 0 ≤ n by omega)
  exact okSpan_yes lo hi m w h1 h2 h3 h4 (by omega)
theorem Adj.mk0 {wr : World} {n m : Nat} {es : List E} {g1 g2 : Nat} {T : Nat → Int} (hs : wr.rowIs g1 21 (n + 1) (fun v => .int .i32 (below es v : Nat))) (ht : wr.rowIs g2 21 m (fun i => .int .i32 (T i))) :
    Adj (wr.alloc (.cells #[.slice (some ⟨g1, 0, none⟩) (n + 1) (n + 1), .slice (some ⟨g2, 0, none⟩) m m] 26)) n m es g1 g2 wr.heap.size T := ⟨hs.alloc _, ht.alloc _, box_row _ _ _⟩
theorem Adj.c0 {wr : World} {n m : Nat} {es : List E} {g1 g2 q : Nat} {T : Nat → Int} (h : Adj wr n m es g1 g2 q T) : wr.cell? ⟨q, 0, none⟩ = some (.slice (some ⟨g1, 0, none⟩) (n + 1) (n + 1)) := by
  have := h.b.cell (i := 0) (by omega)
  simpa using this
theorem Adj.c1 {wr : World} {n m : Nat} {es : List E} {g1 g2 q : Nat} {T : Nat → Int} (h : Adj wr n m es g1 g2 q T) : wr.cell? ⟨q, 1, none⟩ = some (.slice (some ⟨g2, 0, none⟩) m m) := by
  have := h.b.cell (i := 1) (by omega)
  simpa using this

theorem join_left {A B es : List E} {n v j : Nat} {T TA : Nat → Int} (he : es = A ++ B) (hT : ToOk es n es.length T) (hTA : ToOk A n A.length TA) (hv : v < n) (hj : j < cnt A v) : T (below es v + j) = TA (below A v + j) := by
  subst he
  rw [toOk_end hT v hv j (by rw [cnt_append]; omega), toOk_end hTA v hv j hj, bucket_append, getD_left _ _ _ (by rw [bucket_length]; exact hj)]
theorem join_right {A B es : List E} {n v j : Nat} {T TB : Nat → Int} (he : es = A ++ B) (hT : ToOk es n es.length T) (hTB : ToOk B n B.length TB) (hv : v < n) (hj : j < cnt B v) : T (below es v + (cnt A v + j)) = TB (below B v + j) := by
  subst he
  rw [toOk_end hT v hv _ (by rw [cnt_append]; omega), toOk_end hTB v hv j hj, bucket_append]
  rw [List.getD_eq_getElem?_getD, List.getElem?_append_right (by rw [bucket_length]; omega), bucket_length, Nat.add_sub_cancel_left, ← List.getD_eq_getElem?_getD]

set_option maxHeartbeats 4000000 in
set_option maxRecDepth 100000 in
theorem split_any (n k : Int) (a : Option Addr) (c : Nat) (es : List E) (w : World) (hm : es.length ≤ maxLen) (hlc : es.length ≤ c) (hF : Fits es) (hna : a = none → es = []) (hE : Edges w a es) :
    Calls Try.prog 4 #[.int .i64 n, .slice a es.length c, .int .i64 k] w fun e w' => e = .returned (.bool true) ∧ Below w.heap.size w w' := by
  go_enter Try.func4, Try.ntmps4
  go_wp2_with fail
  refine (zz12 n k a es.length c w hm).mono ?_
  rintro _ w ⟨b, rfl, rfl⟩
  cases b
  · go_wp2
    go_ret
    exact ⟨rfl, Below.refl _ _⟩
  · unfold maxLen at hm
    by_cases h1 : (65536 : Int) < es.length
    · have b1 : decide ((65536 : Int) < es.length) = true := decide_eq_true h1
      go_wp2
      go_ret
      exact ⟨rfl, Below.refl _ _⟩
    · have b1 : decide ((65536 : Int) < es.length) = false := decide_eq_false h1
      by_cases h2 : n < 0
      · have b2 : decide (n < 0) = true := decide_eq_true h2
        go_wp2
        go_ret
        exact ⟨rfl, Below.refl _ _⟩
      · have b2 : decide (n < 0) = false := decide_eq_false h2
        by_cases h3 : 65536 < n
        · have b3 : decide (65536 < n) = true := decide_eq_true h3
          go_wp2
          go_ret
          exact ⟨rfl, Below.refl _ _⟩
        · have b3 : decide (65536 < n) = false := decide_eq_false h3
          by_cases h4 : k < 0
          · have b4 : decide (k < 0) = true := decide_eq_true h4
            go_wp2
            go_ret
            exact ⟨rfl, Below.refl _ _⟩
          · have b4 : decide (k < 0) = false := decide_eq_false h4
            by_cases h5 : (es.length : Int) < k
            · have b5 : decide ((es.length : Int) < k) = true := decide_eq_true h5
              go_wp2
              go_ret
              exact ⟨rfl, Below.refl _ _⟩
            · have b5 : decide ((es.length : Int) < k) = false := decide_eq_false h5
              obtain ⟨n, rfl⟩ := Int.eq_ofNat_of_zero_le (show 0 ≤ n by omega)
              obtain ⟨k, rfl⟩ := Int.eq_ofNat_of_zero_le (show 0 ≤ k by omega)
              have hl : es.length ≤ 65536 := by omega
              have hn : n ≤ 65536 := by omega
              have hk : k ≤ es.length := by omega
              go_wp2_with fail
              refine (froms n a c es w hn hl hF hE).mono ?_
              rintro _ w ⟨b, rfl, rfl, hin⟩
              cases b
              · go_wp2
                go_ret
                exact ⟨rfl, Below.refl _ _⟩
              · have hI := hin rfl
                clear hin h1 h2 h3 h4 h5
                go_wp2_with fail
                refine (toProject_any a c es w hl hna hE).mono ?_
                rintro _ wA ⟨ao, co, rfl, hEo, hbA⟩
                go_wp2_with fail
                refine (adj_any n ao co es wA hn hl hF hI hEo).mono ?_
                rintro _ wB ⟨g1, g2, T, rfl, hr1, hr2, hTo, hbB⟩
                have hb1 : Below w.heap.size w wB := hbA.trans (hbB.mono hbA.size)
                clear hEo hbB hbA
                have lenA : (es.take k).length = k := by rw [List.length_take]; omega
                have lenB : (es.drop k).length = es.length - k := by rw [List.length_drop]
                obtain ⟨A, hA⟩ : ∃ A, Hid (A = es.take k) := ⟨_, rfl⟩
                obtain ⟨B, hB⟩ : ∃ B, Hid (B = es.drop k) := ⟨_, rfl⟩
                rw [← hA.out] at lenA
                rw [← hB.out] at lenB
                have joined : Hid (es = A ++ B) := by rw [hA.out, hB.out, List.take_append_drop]; rfl
                have fA : Fits A := fits_of fun e he => fits_mem hF e (by rw [joined.out]; exact List.mem_append_left _ he)
                have fB : Fits B := fits_of fun e he => fits_mem hF e (by rw [joined.out]; exact List.mem_append_right _ he)
                have iA : In n A := by rw [hA.out]; exact hI.take k
                have iB : In n B := by rw [hB.out]; exact hI.drop k
                have eA : Edges w a A := by rw [hA.out]; exact edges_take hE k hk
                have eB : Edges w (Option.map (fun x => x.add (k * 2)) a) B := by rw [hB.out]; exact edges_drop hE k
                have nA : a = none → A = [] := fun h => by rw [hA.out, hna h]; simp
                have nB : a = none → B = [] := fun h => by rw [hB.out, hna h]; simp
                have AA := Adj.mk0 hr1 hr2
                have hb2 := hb1.alloc hb1.size (Obj.cells #[.slice (some ⟨g1, 0, none⟩) (n + 1) (n + 1), .slice (some ⟨g2, 0, none⟩) es.length es.length] 26)
                clear hr1 hr2 hb1
                go_wp2_with fail
                refine (toProject_len k a c A _ lenA (by omega) nA (eA.below hb2)).mono ?_
                rintro _ wC ⟨aA, cA, rfl, hEA, hbC⟩
                replace AA := AA.step hbC
                have hb3 : Below w.heap.size w wC := hb2.trans (hbC.mono hb2.size)
                clear hbC hb2
                go_wp2_with fail
                refine (adj_len n k aA cA A _ lenA hn (by omega) fA iA hEA).mono ?_
                rintro _ wD ⟨a1, a2, TA, rfl, hA1, hA2, hToA, hbD⟩
                replace AA := AA.step hbD
                have hb4 : Below w.heap.size w wD := hb3.trans (hbD.mono hb3.size)
                clear hbD hb3
                have BB := Adj.mk0 hA1 hA2
                replace AA := AA.step ((Below.refl wD.heap.size wD).alloc (Nat.le_refl _) (Obj.cells #[.slice (some ⟨a1, 0, none⟩) (n + 1) (n + 1), .slice (some ⟨a2, 0, none⟩) k k] 26))
                have hb2 := hb4.alloc hb4.size (Obj.cells #[.slice (some ⟨a1, 0, none⟩) (n + 1) (n + 1), .slice (some ⟨a2, 0, none⟩) k k] 26)
                clear hA1 hA2 hb4
                have NB : Hid (c = k → B = []) := fun h => List.eq_nil_of_length_eq_zero (by omega)
                go_wp2_with fail
                all_goals
                  refine (toProject_len (es.length - k) _ _ B _ lenB (by omega) (by first | exact nB | exact fun h => nB (by cases a <;> simp_all)) (by first | exact eB.below hb2 | (intro hp; rw [NB.out (by assumption)] at hp; simp at hp))).mono ?_
                  rintro _ wC ⟨aA, cA, rfl, hEA, hbC⟩
                  replace AA := AA.step hbC
                  replace BB := BB.step hbC
                  have hb3 : Below w.heap.size w wC := hb2.trans (hbC.mono hb2.size)
                  clear hbC hb2
                  go_wp2_with fail
                  refine (adj_len n (es.length - k) aA cA B _ lenB hn (by omega) fB iB hEA).mono ?_
                  rintro _ wE ⟨b1, b2, TB, rfl, hB1, hB2, hToB, hbD⟩
                  replace AA := AA.step hbD
                  replace BB := BB.step hbD
                  have hb4 : Below w.heap.size w wE := hb3.trans (hbD.mono hb3.size)
                  clear hbD hb3
                  have CC := Adj.mk0 hB1 hB2
                  have hup := (Below.refl wE.heap.size wE).alloc (Nat.le_refl _) (Obj.cells #[.slice (some ⟨b1, 0, none⟩) (n + 1) (n + 1), .slice (some ⟨b2, 0, none⟩) (es.length - k) (es.length - k)] 26)
                  replace AA := AA.step hup
                  replace BB := BB.step hup
                  have hb2 := hb4.alloc hb4.size (Obj.cells #[.slice (some ⟨b1, 0, none⟩) (n + 1) (n + 1), .slice (some ⟨b2, 0, none⟩) (es.length - k) (es.length - k)] 26)
                  clear hB1 hB2 hb4 hup
                  clear hE eA eB nA nB NB hA hB hna hF fA fB hEA
                  have u0 := AA.c0
                  have u1 := AA.c1
                  go_wp2_with fail
                  refine (zzstart _ _ _).mono ?_
                  rintro _ wF0 ⟨rfl, hb⟩
                  replace AA := AA.step hb
                  replace BB := BB.step hb
                  replace CC := CC.step hb
                  have hc0 : Below w.heap.size w wF0 := hb2.trans (hb.mono hb2.size)
                  clear hb hb2 u0 u1
                  have hbz := hc0
                  clear hc0
                  have u0 := AA.c0
                  have u1 := AA.c1
                  go_wp2_with fail
                  refine (zzto _ _ _).mono ?_
                  rintro _ wF1 ⟨rfl, hb⟩
                  replace AA := AA.step hb
                  replace BB := BB.step hb
                  replace CC := CC.step hb
                  have hc1 : Below w.heap.size w wF1 := hbz.trans (hb.mono hbz.size)
                  clear hb hbz u0 u1
                  have hbz := hc1
                  clear hc1
                  have u0 := BB.c0
                  have u1 := BB.c1
                  go_wp2_with fail
                  refine (zzstart _ _ _).mono ?_
                  rintro _ wF2 ⟨rfl, hb⟩
                  replace AA := AA.step hb
                  replace BB := BB.step hb
                  replace CC := CC.step hb
                  have hc2 : Below w.heap.size w wF2 := hbz.trans (hb.mono hbz.size)
                  clear hb hbz u0 u1
                  have hbz := hc2
                  clear hc2
                  have u0 := BB.c0
                  have u1 := BB.c1
                  go_wp2_with fail
                  refine (zzto _ _ _).mono ?_
                  rintro _ wF3 ⟨rfl, hb⟩
                  replace AA := AA.step hb
                  replace BB := BB.step hb
                  replace CC := CC.step hb
                  have hc3 : Below w.heap.size w wF3 := hbz.trans (hb.mono hbz.size)
                  clear hb hbz u0 u1
                  have hbz := hc3
                  clear hc3
                  have u0 := CC.c0
                  have u1 := CC.c1
                  go_wp2_with fail
                  refine (zzstart _ _ _).mono ?_
                  rintro _ wF4 ⟨rfl, hb⟩
                  replace AA := AA.step hb
                  replace BB := BB.step hb
                  replace CC := CC.step hb
                  have hc4 : Below w.heap.size w wF4 := hbz.trans (hb.mono hbz.size)
                  clear hb hbz u0 u1
                  have hbz := hc4
                  clear hc4
                  have u0 := CC.c0
                  have u1 := CC.c1
                  go_wp2_with fail
                  refine (zzto _ _ _).mono ?_
                  rintro _ wF5 ⟨rfl, hb⟩
                  replace AA := AA.step hb
                  replace BB := BB.step hb
                  replace CC := CC.step hb
                  have hc5 : Below w.heap.size w wF5 := hbz.trans (hb.mono hbz.size)
                  clear hb hbz u0 u1
                  have hbz := hc5
                  clear hc5
                  have v1 : wF5.cell? ⟨a1, 0, none⟩ = some (.int .i32 0) := by
                    have := BB.s.cell (i := 0) (by omega)
                    rwa [below_zero A (fun e he => (iA.mem e he).1)] at this
                  have v2 : wF5.cell? ⟨b1, 0, none⟩ = some (.int .i32 0) := by
                    have := CC.s.cell (i := 0) (by omega)
                    rwa [below_zero B (fun e he => (iB.mem e he).1)] at this
                  have v3 : wF5.cell? ⟨a1, n, none⟩ = some (.int .i32 k) := by
                    have := BB.s.cell (i := n) (by omega)
                    rwa [below_all A n (fun e he => (iA.mem e he).2), lenA] at this
                  have v4 : wF5.cell? ⟨b1, n, none⟩ = some (.int .i32 ((es.length : Int) - k)) := by
                    have := CC.s.cell (i := n) (by omega)
                    rwa [below_all B n (fun e he => (iB.mem e he).2), lenB, show ((es.length - k : Nat) : Int) = (es.length : Int) - k by omega] at this
                  have z1 : (n : Int) < (n : Int) + 1 := by omega
                  have z2 : (0 : Int) < (n : Int) + 1 := by omega
                  have z3 : ((es.length - k : Nat) : Int) = (es.length : Int) - k := by omega
                  go_wp2
                  clear v1 v2 v3 v4 z1 z2
                  go_loopg [17] (n + 1) (fun g x wr => ∃ v : Nat, v ≤ n + 1 ∧ g = n + 1 - v ∧ x = .int .i64 v ∧ Adj wr n es.length es g1 g2 wB.heap.size T ∧ Adj wr n k A a1 a2 wD.heap.size TA ∧ Adj wr n (es.length - k) B b1 b2 wE.heap.size TB ∧ Below w.heap.size w wr)
                  case atStart => exact ⟨0, Nat.zero_le _, rfl, rfl, AA, BB, CC, hbz⟩
                  case round =>
                    clear AA BB CC hbz
                    obtain ⟨v, hv, rfl, rfl, AA, BB, CC, hbz⟩ := hrel
                    by_cases hlt : v ≤ n
                    · have c1 := AA.s.cell (i := v) (by omega)
                      have c2 := BB.s.cell (i := v) (by omega)
                      have c3 := CC.s.cell (i := v) (by omega)
                      have e1 : below es v = below A v + below B v := by rw [joined.out, below_append]
                      rw [e1, Int.natCast_add] at c1
                      have d1 := below_le A v
                      have d2 := below_le B v
                      clear e1
                      generalize below A v = x1 at *
                      generalize below B v = x2 at *
                      have z1 : (v : Int) < (n : Int) + 1 := by omega
                      go_wp2
                      go_quiet (fail)
                      go_wp2
                      go_roundg (n + 1 - (v + 1))
                      case measure => omega
                      case rel => exact ⟨v + 1, by omega, rfl, by go_num, AA.drewN _, BB.drewN _, CC.drewN _, drewN_below hbz _⟩
                    · have vb : decide (v ≤ n) = false := decide_eq_false hlt
                      go_wp2
                      clear vb hlt hv
                      go_loopg [18] n (fun g x wr => ∃ v : Nat, v ≤ n ∧ g = n - v ∧ x = .int .i64 v ∧ Adj wr n es.length es g1 g2 wB.heap.size T ∧ Adj wr n k A a1 a2 wD.heap.size TA ∧ Adj wr n (es.length - k) B b1 b2 wE.heap.size TB ∧ Below w.heap.size w wr)
                      case atStart => exact ⟨0, Nat.zero_le _, rfl, rfl, AA, BB, CC, hbz⟩
                      case round =>
                        clear AA BB CC hbz
                        obtain ⟨v, hv, rfl, rfl, AA, BB, CC, hbz⟩ := hrel
                        by_cases hlt : v < n
                        · have JL : Hid (∀ j, j < cnt A v → T (below es v + j) = TA (below A v + j)) := fun j hj => join_left joined.out hTo (by rw [lenA]; exact hToA) hlt hj
                          have JR : Hid (∀ j, j < cnt B v → T (below es v + (cnt A v + j)) = TB (below B v + j)) := fun j hj => join_right joined.out hTo (by rw [lenB]; exact hToB) hlt hj
                          have c1 := AA.s.cell (i := v) (by omega)
                          have c2 := BB.s.cell (i := v) (by omega)
                          have c3 := CC.s.cell (i := v) (by omega)
                          have k1 := AA.s.cell (i := v + 1) (by omega)
                          have k2 := BB.s.cell (i := v + 1) (by omega)
                          have k3 := CC.s.cell (i := v + 1) (by omega)
                          have e1 : below es v = below A v + below B v := by rw [joined.out, below_append]
                          have e2 : below es (v + 1) = below A (v + 1) + below B (v + 1) := by rw [joined.out, below_append]
                          have e3 := below_succ A v
                          have e4 := below_succ B v
                          have d0 := below_le es (v + 1)
                          have d1 := below_le A (v + 1)
                          have d2 := below_le B (v + 1)
                          rw [lenA] at d1
                          rw [lenB] at d2
                          have z1 : (v : Int) < (n : Int) + 1 := by omega
                          have z2 : (v : Int) + 1 < (n : Int) + 1 := by omega
                          generalize below es v = s0 at *
                          generalize below es (v + 1) = s1 at *
                          generalize below A v = p0 at *
                          generalize below A (v + 1) = p1 at *
                          generalize below B v = q0 at *
                          generalize below B (v + 1) = q1 at *
                          generalize cnt A v = m1 at *
                          generalize cnt B v = m2 at *
                          have E1 : Hid (s0 = p0 + q0 ∧ s1 = p1 + q1 ∧ p1 = p0 + m1 ∧ q1 = q0 + m2) := ⟨e1, e2, e3, e4⟩
                          have z3 : (s1 : Int) - (s0 : Int) = (p1 : Int) - (p0 : Int) + ((q1 : Int) - (q0 : Int)) := by omega
                          have z4 : p0 ≤ p1 := by omega
                          have z5 : q0 ≤ q1 := by omega
                          have z6 : s0 ≤ s1 := by omega
                          clear e1 e2 e3 e4
                          go_wp2
                          go_quiet ((go_at_call 13; exact Calls.quiet_of_same (okSpan_int _ _ _ _ (by omega) (by omega) (by omega) (by omega) (by omega))))
                          go_wp2
                          clear c1 c2 c3 k1 k2 k3
                          go_loopg [25, 23] m1 (fun g x y wr => ∃ j pp ii : Nat, j ≤ m1 ∧ g = m1 - j ∧ ii = p0 + j ∧ pp = s0 + j ∧ x = .int .i64 ii ∧ y = .int .i64 pp ∧ Adj wr n es.length es g1 g2 wB.heap.size T ∧ Adj wr n k A a1 a2 wD.heap.size TA ∧ Adj wr n (es.length - k) B b1 b2 wE.heap.size TB ∧ Below w.heap.size w wr)
                          case atStart => exact ⟨0, s0, p0, Nat.zero_le _, rfl, rfl, rfl, rfl, rfl, AA.drewN _, BB.drewN _, CC.drewN _, drewN_below hbz _⟩
                          case round =>
                            clear AA BB CC hbz
                            obtain ⟨j, pp, ii, hj, rfl, hii, hpp, rfl, rfl, AA, BB, CC, hbz⟩ := hrel
                            obtain ⟨E1, E2, E3, E4⟩ := E1.out
                            by_cases hlt2 : j < m1
                            · have x1 := AA.t.cell (i := pp) (by omega)
                              have x2 := BB.t.cell (i := ii) (by omega)
                              have x3 := JL.out j hlt2
                              rw [hpp, x3] at x1
                              rw [← hpp] at x1
                              rw [hii] at x2
                              rw [← hii] at x2
                              have x2' : wr.cell? ⟨a2, ii, none⟩ = some (.int .i32 (TA (p0 + j))) := by rw [x2, hii]
                              clear x2 x3
                              generalize TA (p0 + j) = tt at *
                              have z7 : (ii : Int) < (p1 : Int) := by omega
                              have z8 : (ii : Int) < (k : Int) := by omega
                              have z9 : (pp : Int) < (es.length : Int) := by omega
                              have zz : Hid (ii = p0 + j ∧ pp = s0 + j ∧ s0 = p0 + q0 ∧ s1 = p1 + q1 ∧ p1 = p0 + m1 ∧ q1 = q0 + m2) := ⟨hii, hpp, E1, E2, E3, E4⟩
                              clear E1 E2 E3 E4 hii hpp
                              go_wp2
                              go_quiet (fail)
                              go_wp2
                              go_roundg (m1 - (j + 1))
                              case measure => omega
                              case rel => exact ⟨j + 1, pp + 1, ii + 1, by omega, rfl, by have := zz.out; omega, by have := zz.out; omega, by go_num, by go_num, AA.drewN _, BB.drewN _, CC.drewN _, drewN_below hbz _⟩
                            · have vb : decide (ii < p1) = false := decide_eq_false (by omega)
                              have zz : Hid (pp = s0 + m1 ∧ s0 = p0 + q0 ∧ s1 = p1 + q1 ∧ p1 = p0 + m1 ∧ q1 = q0 + m2) := ⟨by omega, E1, E2, E3, E4⟩
                              clear E1 E2 E3 E4 hii hpp hlt2 hj
                              go_wp2
                              clear vb
                              go_loopg [26, 23] m2 (fun g x y wr => ∃ j pp ii : Nat, j ≤ m2 ∧ g = m2 - j ∧ ii = q0 + j ∧ pp = s0 + (m1 + j) ∧ x = .int .i64 ii ∧ y = .int .i64 pp ∧ Adj wr n es.length es g1 g2 wB.heap.size T ∧ Adj wr n k A a1 a2 wD.heap.size TA ∧ Adj wr n (es.length - k) B b1 b2 wE.heap.size TB ∧ Below w.heap.size w wr)
                              case atStart => exact ⟨0, pp, q0, Nat.zero_le _, rfl, rfl, by have := zz.out; omega, rfl, rfl, AA, BB, CC, hbz⟩
                              case round =>
                                clear AA BB CC hbz
                                obtain ⟨E0, E1, E2, E3, E4⟩ := zz.out
                                clear zz E0
                                obtain ⟨j, pp, ii, hj, rfl, hii, hpp, rfl, rfl, AA, BB, CC, hbz⟩ := hrel
                                by_cases hlt2 : j < m2
                                · have x1 := AA.t.cell (i := pp) (by omega)
                                  have x2 := CC.t.cell (i := ii) (by omega)
                                  have x3 := JR.out j hlt2
                                  rw [hpp, x3] at x1
                                  rw [← hpp] at x1
                                  have x2' : wr.cell? ⟨b2, ii, none⟩ = some (.int .i32 (TB (q0 + j))) := by rw [x2, hii]
                                  clear x2 x3
                                  generalize TB (q0 + j) = tt at *
                                  have z7 : (ii : Int) < (q1 : Int) := by omega
                                  have z8 : (ii : Int) < (es.length : Int) - (k : Int) := by omega
                                  have z9 : (pp : Int) < (es.length : Int) := by omega
                                  have zz : Hid (ii = q0 + j ∧ pp = s0 + (m1 + j)) := ⟨hii, hpp⟩
                                  clear E1 E2 E3 E4 hii hpp
                                  go_wp2
                                  go_quiet (fail)
                                  go_wp2
                                  go_roundg (m2 - (j + 1))
                                  case measure => omega
                                  case rel => exact ⟨j + 1, pp + 1, ii + 1, by omega, rfl, by have := zz.out; omega, by have := zz.out; omega, by go_num, by go_num, AA.drewN _, BB.drewN _, CC.drewN _, drewN_below hbz _⟩
                                · have vb : decide (ii < q1) = false := decide_eq_false (by omega)
                                  clear E1 E2 E3 E4 hii hpp hlt2 hj
                                  go_wp2
                                  go_roundg (n - (v + 1))
                                  case measure => omega
                                  case rel => exact ⟨v + 1, by omega, rfl, by go_num, AA, BB, CC, hbz⟩
                        · have vb : decide (v < n) = false := decide_eq_false hlt
                          go_wp2
                          go_ret
                          exact ⟨rfl, hbz⟩

end Go.Proofs.Qxb6627878a.split
