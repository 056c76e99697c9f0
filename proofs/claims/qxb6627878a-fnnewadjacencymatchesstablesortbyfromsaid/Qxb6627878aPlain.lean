/-
  Counting edges by the node that they leave: no Go in sight.
-/
namespace Go.Proofs.Qxb6627878a.plain

abbrev E := Int × Int

/-- The edges that leave v. -/
def at_ (es : List E) (v : Nat) : List E := es.filter fun e => e.1 == (v : Int)
def cnt (es : List E) (v : Nat) : Nat := (at_ es v).length
/-- How many leave a node below v. -/
def below (es : List E) (v : Nat) : Nat := (es.filter fun e => decide (e.1 < (v : Int))).length
/-- Where they lead to, in order. -/
def bucket (es : List E) (v : Nat) : List Int := (at_ es v).map (·.2)

theorem bucket_length (es : List E) (v : Nat) : (bucket es v).length = cnt es v := by simp [bucket, cnt]
theorem at_append (a b : List E) (v : Nat) : at_ (a ++ b) v = at_ a v ++ at_ b v := by simp [at_]
theorem cnt_append (a b : List E) (v : Nat) : cnt (a ++ b) v = cnt a v + cnt b v := by simp [cnt, at_append]
theorem bucket_append (a b : List E) (v : Nat) : bucket (a ++ b) v = bucket a v ++ bucket b v := by simp [bucket, at_append]
theorem below_append (a b : List E) (v : Nat) : below (a ++ b) v = below a v + below b v := by simp [below]

theorem below_succ : ∀ (es : List E) (v : Nat), below es (v + 1) = below es v + cnt es v
  | [], v => rfl
  | e :: es, v => by
    have ih := below_succ es v
    unfold below cnt at_ at ih ⊢
    rw [List.filter_cons, List.filter_cons, List.filter_cons]
    by_cases h1 : e.1 < (v : Int)
    · have h2 : e.1 < ((v + 1 : Nat) : Int) := by omega
      have h3 : ¬ e.1 = (v : Int) := by omega
      simp only [h1, h2, decide_true, if_true, List.length_cons]
      rw [if_neg (by simpa using h3)]
      omega
    · by_cases h3 : e.1 = (v : Int)
      · have h2 : e.1 < ((v + 1 : Nat) : Int) := by omega
        simp only [h1, h2, decide_true, if_true, List.length_cons, decide_false, Bool.false_eq_true, if_false]
        rw [if_pos (by simpa using h3)]
        simp only [List.length_cons]
        omega
      · have h2 : ¬ e.1 < ((v + 1 : Nat) : Int) := by omega
        simp only [h1, h2, decide_false, Bool.false_eq_true, if_false]
        rw [if_neg (by simpa using h3)]
        omega
theorem below_mono (es : List E) (v u : Nat) (h : v ≤ u) : below es v ≤ below es u := by
  induction u with
  | zero => have : v = 0 := by omega
            subst this; exact Nat.le_refl _
  | succ u ih =>
    by_cases e : v = u + 1
    · subst e; exact Nat.le_refl _
    · have := ih (by omega)
      rw [below_succ]; omega
theorem below_le (es : List E) (v : Nat) : below es v ≤ es.length := List.length_filter_le _ _
theorem cnt_le (es : List E) (v : Nat) : cnt es v ≤ es.length := List.length_filter_le _ _
theorem below_zero (es : List E) (h : ∀ e ∈ es, 0 ≤ e.1) : below es 0 = 0 := by
  unfold below
  rw [List.filter_eq_nil_iff.2]
  · rfl
  · intro e he
    have := h e he
    simp
    omega
theorem below_all (es : List E) (n : Nat) (h : ∀ e ∈ es, e.1 < (n : Int)) : below es n = es.length := by
  unfold below
  rw [List.filter_eq_self.2]
  intro e he
  simpa using h e he
theorem cnt_none (es : List E) (n : Nat) (h : ∀ e ∈ es, e.1 < (n : Int)) : cnt es n = 0 := by
  unfold cnt at_
  rw [List.filter_eq_nil_iff.2]
  · rfl
  · intro e he
    have := h e he
    simp
    omega

theorem cnt_sing (e : E) (v : Nat) : cnt [e] v = if e.1 = (v : Int) then 1 else 0 := by
  unfold cnt at_
  rw [List.filter_cons]
  by_cases h : e.1 = (v : Int)
  · rw [if_pos h, if_pos (by simpa using h)]; rfl
  · rw [if_neg h, if_neg (by simpa using h)]; rfl
theorem bucket_sing (e : E) (v : Nat) : bucket [e] v = if e.1 = (v : Int) then [e.2] else [] := by
  unfold bucket at_
  rw [List.filter_cons]
  by_cases h : e.1 = (v : Int)
  · rw [if_pos h, if_pos (by simpa using h)]; rfl
  · rw [if_neg h, if_neg (by simpa using h)]; rfl
theorem getD_last (l : List Int) (x : Int) (k : Nat) (h : k = l.length) : (l ++ [x]).getD k 0 = x := by
  subst h
  rw [List.getD_eq_getElem?_getD, List.getElem?_append_right (Nat.le_refl _), Nat.sub_self]; rfl
theorem getD_left (l r : List Int) (k : Nat) (h : k < l.length) : (l ++ r).getD k 0 = l.getD k 0 := by
  rw [List.getD_eq_getElem?_getD, List.getD_eq_getElem?_getD, List.getElem?_append_left h]

/-- The first k edges and one more. -/
theorem take_one (es : List E) (k : Nat) (h : k < es.length) : es.take (k + 1) = es.take k ++ [es.getD k (0, 0)] := by
  rw [List.take_add_one, List.getD_eq_getElem?_getD, List.getElem?_eq_getElem h]; rfl
theorem cnt_one (es : List E) (k v : Nat) (h : k < es.length) : cnt (es.take (k + 1)) v = cnt (es.take k) v + if (es.getD k (0, 0)).1 = (v : Int) then 1 else 0 := by
  rw [take_one es k h, cnt_append, cnt_sing]
theorem bucket_one (es : List E) (k v : Nat) (h : k < es.length) : bucket (es.take (k + 1)) v = bucket (es.take k) v ++ if (es.getD k (0, 0)).1 = (v : Int) then [(es.getD k (0, 0)).2] else [] := by
  rw [take_one es k h, bucket_append, bucket_sing]
theorem cnt_take_le (es : List E) (k v : Nat) : cnt (es.take k) v ≤ cnt es v := by
  have := cnt_append (es.take k) (es.drop k) v
  rw [List.take_append_drop] at this
  omega
theorem cnt_take_lt (es : List E) (k v : Nat) (h : k < es.length) (e : (es.getD k (0, 0)).1 = (v : Int)) : cnt (es.take k) v < cnt es v := by
  have h1 := cnt_one es k v h
  rw [if_pos e] at h1
  have := cnt_take_le es (k + 1) v
  omega

/-- Every edge leaves a node below n. -/
def In (n : Nat) (es : List E) : Prop := ∀ i, i < es.length → 0 ≤ (es.getD i (0, 0)).1 ∧ (es.getD i (0, 0)).1 < n
theorem In.mem {n : Nat} {es : List E} (h : In n es) : ∀ e ∈ es, 0 ≤ e.1 ∧ e.1 < (n : Int) := by
  intro e he
  obtain ⟨i, hi, rfl⟩ := List.getElem_of_mem he
  have := h i hi
  rw [List.getD_eq_getElem?_getD, List.getElem?_eq_getElem hi] at this
  exact this
theorem In.of_mem {n : Nat} {es : List E} (h : ∀ e ∈ es, 0 ≤ e.1 ∧ e.1 < (n : Int)) : In n es := by
  intro i hi
  rw [List.getD_eq_getElem?_getD, List.getElem?_eq_getElem hi]
  exact h _ (List.getElem_mem hi)
theorem In.take {n : Nat} {es : List E} (h : In n es) (k : Nat) : In n (es.take k) := .of_mem fun e he => h.mem e (List.mem_of_mem_take he)
theorem In.drop {n : Nat} {es : List E} (h : In n es) (k : Nat) : In n (es.drop k) := .of_mem fun e he => h.mem e (List.mem_of_mem_drop he)

/-! ### The three loops of NewAdjacency -/
/-- 'start' behind k rounds of the first loop. -/
def S1 (es : List E) (k v : Nat) : Int := if v = 0 then 0 else (cnt (es.take k) (v - 1) : Nat)
/-- .. behind u rounds of the second. -/
def S2 (es : List E) (u v : Nat) : Int := if v ≤ u then (below es v : Nat) else (cnt es (v - 1) : Nat)
/-- .. behind k rounds of the third. -/
def S3 (es : List E) (k v : Nat) : Int := ((below es v + cnt (es.take k) v : Nat) : Int)

theorem S1_zero (es : List E) (v : Nat) : S1 es 0 v = 0 := by
  unfold S1; split
  · rfl
  · simp [cnt, at_]
theorem S1_step (es : List E) (k v f : Nat) (h : k < es.length) (hf : (es.getD k (0, 0)).1 = (f : Int)) : S1 es (k + 1) v = if v = f + 1 then S1 es k (f + 1) + 1 else S1 es k v := by
  by_cases e : v = f + 1
  · subst e
    rw [if_pos rfl]
    unfold S1
    rw [if_neg (by omega), if_neg (by omega), Nat.add_sub_cancel, cnt_one es k f h, if_pos hf]
    omega
  · rw [if_neg e]
    unfold S1
    by_cases e0 : v = 0
    · rw [if_pos e0, if_pos e0]
    · rw [if_neg e0, if_neg e0, cnt_one es k (v - 1) h, if_neg (by omega)]
      rfl
theorem S1_bd (es : List E) (k v : Nat) (hl : es.length ≤ 65536) : 0 ≤ S1 es k v ∧ S1 es k v ≤ 65536 := by
  unfold S1
  split
  · omega
  · have := cnt_le (es.take k) (v - 1)
    rw [List.length_take] at this
    omega
theorem S1_S2 (es : List E) (v : Nat) (h : ∀ e ∈ es, 0 ≤ e.1) : S1 es es.length v = S2 es 0 v := by
  unfold S1 S2
  by_cases e : v = 0
  · subst e; rw [if_pos rfl, if_pos (Nat.le_refl _), below_zero es h]; rfl
  · rw [if_neg e, if_neg (by omega), List.take_of_length_le (Nat.le_refl _)]
theorem S2_step (es : List E) (u v : Nat) : S2 es (u + 1) v = if v = u + 1 then S2 es u (u + 1) + S2 es u u else S2 es u v := by
  by_cases e : v = u + 1
  · subst e
    rw [if_pos rfl]
    unfold S2
    rw [if_pos (Nat.le_refl _), if_neg (by omega), if_pos (Nat.le_refl _), Nat.add_sub_cancel, below_succ]
    omega
  · rw [if_neg e]
    unfold S2
    by_cases e2 : v ≤ u
    · rw [if_pos e2, if_pos (by omega)]
    · rw [if_neg e2, if_neg (by omega)]
theorem S2_bd (es : List E) (u v : Nat) (hl : es.length ≤ 65536) : 0 ≤ S2 es u v ∧ S2 es u v ≤ 65536 := by
  unfold S2
  split
  · have := below_le es v; omega
  · have := cnt_le es (v - 1); omega
theorem S2_S3 (es : List E) (n v : Nat) (h : v ≤ n) : S2 es n v = S3 es 0 v := by
  unfold S2 S3
  rw [if_pos h]
  simp [cnt, at_]
theorem S3_step (es : List E) (k v f : Nat) (h : k < es.length) (hf : (es.getD k (0, 0)).1 = (f : Int)) : S3 es (k + 1) v = if v = f then S3 es k f + 1 else S3 es k v := by
  unfold S3
  rw [cnt_one es k v h]
  by_cases e : v = f
  · subst e; rw [if_pos hf, if_pos rfl]; omega
  · rw [if_neg (by omega), if_neg e]; rfl
theorem S3_lt (es : List E) (n k f : Nat) (_hin : In n es) (h : k < es.length) (hf : (es.getD k (0, 0)).1 = (f : Int)) : 0 ≤ S3 es k f ∧ S3 es k f < es.length := by
  have h1 := cnt_take_lt es k f h hf
  have h2 := below_succ es f
  have h3 := below_le es (f + 1)
  unfold S3
  omega
theorem S3_end (es : List E) (v : Nat) : S3 es es.length v = (below es (v + 1) : Nat) := by
  unfold S3
  rw [List.take_of_length_le (Nat.le_refl _), below_succ]

/-- 'to' behind k rounds of the third loop. -/
def ToOk (es : List E) (n k : Nat) (T : Nat → Int) : Prop := ∀ v, v < n → ∀ j, j < cnt (es.take k) v → T (below es v + j) = (bucket (es.take k) v).getD j 0
theorem toOk_zero (es : List E) (n : Nat) (T : Nat → Int) : ToOk es n 0 T := by
  intro v _ j hj
  simp [cnt, at_] at hj
theorem toOk_step {es : List E} {n k f : Nat} {T : Nat → Int} (h : k < es.length) (hf : (es.getD k (0, 0)).1 = (f : Int)) (hfn : f < n) (ht : ToOk es n k T) :
    ToOk es n (k + 1) (fun i => if i = below es f + cnt (es.take k) f then (es.getD k (0, 0)).2 else T i) := by
  intro v hv j hj
  rw [cnt_one es k v h] at hj
  rw [bucket_one es k v h]
  have hlt := cnt_take_lt es k f h hf
  by_cases e : v = f
  · subst e
    rw [if_pos hf] at hj ⊢
    by_cases ej : j = cnt (es.take k) v
    · subst ej
      rw [getD_last _ _ _ (bucket_length _ _).symm]
      simp
    · have ne : ¬ below es v + j = below es v + cnt (es.take k) v := by omega
      simp only [if_neg ne]
      rw [ht v hv j (by omega), getD_left _ _ _ (by rw [bucket_length]; omega)]
  · have hne : ¬ (es.getD k (0, 0)).1 = (v : Int) := by omega
    rw [if_neg hne] at hj ⊢
    rw [List.append_nil]
    have hc := cnt_take_le es k v
    have ne : ¬ below es v + j = below es f + cnt (es.take k) f := by
      rcases Nat.lt_or_gt_of_ne e with hlt2 | hgt
      · have h1 := below_mono es (v + 1) f (by omega)
        rw [below_succ] at h1
        omega
      · have h1 := below_mono es (f + 1) v (by omega)
        rw [below_succ] at h1
        omega
    simp only [if_neg ne]
    exact ht v hv j (by omega)
theorem toOk_end {es : List E} {n : Nat} {T : Nat → Int} (h : ToOk es n es.length T) : ∀ v, v < n → ∀ j, j < cnt es v → T (below es v + j) = (bucket es v).getD j 0 := by
  intro v hv j hj
  have := h v hv j
  rw [List.take_of_length_le (Nat.le_refl _)] at this
  exact this hj

end Go.Proofs.Qxb6627878a.plain
