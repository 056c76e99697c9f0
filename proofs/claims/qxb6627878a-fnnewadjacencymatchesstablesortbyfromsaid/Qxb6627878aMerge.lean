/-
  Stable sorting by the node that an edge leaves: no Go in sight.
-/
import Derived.Test.Qxb6627878aPlain
namespace Go.Proofs.Qxb6627878a.mrg
open Go.Proofs.Qxb6627878a.plain

/-- The edges f a, .., f (b - 1). -/
def seg (f : Nat → E) (a b : Nat) : List E := (List.range' a (b - a)).map f
theorem seg_nil (f : Nat → E) {a b : Nat} (h : b ≤ a) : seg f a b = [] := by
  unfold seg; rw [show b - a = 0 by omega]; rfl
theorem seg_cons (f : Nat → E) {a b : Nat} (h : a < b) : seg f a b = f a :: seg f (a + 1) b := by
  unfold seg
  rw [show b - a = (b - (a + 1)) + 1 by omega, List.range'_succ, List.map_cons]
theorem seg_snoc (f : Nat → E) {a b : Nat} (h : a ≤ b) : seg f a (b + 1) = seg f a b ++ [f b] := by
  unfold seg
  rw [show b + 1 - a = (b - a) + 1 by omega, List.range'_1_concat, List.map_append, show a + (b - a) = b by omega]; rfl
theorem seg_congr {f g : Nat → E} {a b : Nat} (h : ∀ i, a ≤ i → i < b → f i = g i) : seg f a b = seg g a b := by
  unfold seg
  refine List.map_congr_left fun i hi => ?_
  have := List.mem_range'_1.1 hi
  exact h i (by omega) (by omega)
theorem seg_append (f : Nat → E) {a b : Nat} (h : a ≤ b) : ∀ c, b ≤ c → seg f a c = seg f a b ++ seg f b c := by
  intro c
  induction c with
  | zero => intro hc; rw [seg_nil f (show 0 ≤ a by omega), seg_nil f (show b ≤ a by omega), seg_nil f (show 0 ≤ b by omega)]; rfl
  | succ c ih =>
    intro hc
    by_cases e : b = c + 1
    · subst e; rw [seg_nil f (Nat.le_refl (c + 1)), List.append_nil]
    · rw [seg_snoc f (show a ≤ c by omega), ih (by omega), seg_snoc f (show b ≤ c by omega), List.append_assoc]
theorem seg_length (f : Nat → E) (a b : Nat) : (seg f a b).length = b - a := by simp [seg]
theorem seg_getD (f : Nat → E) {m i : Nat} (h : i < m) : (seg f 0 m).getD i (0, 0) = f i := by
  unfold seg
  rw [List.getD_eq_getElem?_getD, List.getElem?_map, List.getElem?_range' (by omega)]; simp
theorem seg_full (es : List E) : seg (fun i => es.getD i (0, 0)) 0 es.length = es := by
  apply List.ext_getElem?
  intro i
  by_cases h : i < es.length
  · rw [List.getElem?_eq_getElem h]
    unfold seg
    rw [List.getElem?_map, List.getElem?_range' (by omega)]
    simp [h]
  · rw [List.getElem?_eq_none (by rw [seg_length]; omega), List.getElem?_eq_none (by omega)]

def lt1 (a b : E) : Prop := a.1 ≤ b.1
/-- X is A, stably sorted. -/
def St (X A : List E) : Prop := X.Pairwise lt1 ∧ ∀ v : Int, X.filter (fun e => e.1 == v) = A.filter (fun e => e.1 == v)

def mrg : List E → List E → List E
  | [], ys => ys
  | x :: xs, ys => go x (mrg xs) ys
where
  go (x : E) (tail : List E → List E) : List E → List E
    | [] => x :: tail []
    | y :: ys => if x.1 ≤ y.1 then x :: tail (y :: ys) else y :: go x tail ys
theorem mrg_nil (ys : List E) : mrg [] ys = ys := rfl
theorem mrg_cons_nil (x : E) (xs : List E) : mrg (x :: xs) [] = x :: mrg xs [] := rfl
theorem mrg_cons_cons (x : E) (xs : List E) (y : E) (ys : List E) : mrg (x :: xs) (y :: ys) = if x.1 ≤ y.1 then x :: mrg xs (y :: ys) else y :: mrg (x :: xs) ys := rfl

/-! ### One round of the merge -/
theorem put_seg (D : Nat → E) {lo k : Nat} (x : E) (h : lo ≤ k) : seg (fun i => if i = k then x else D i) lo (k + 1) = seg D lo k ++ [x] := by
  rw [seg_snoc _ h, if_pos rfl]
  congr 1
  exact seg_congr fun i _ hi => if_neg (by omega)
theorem round_left {S D : Nat → E} {lo mid hi i j k : Nat} {M : List E} (h : seg D lo k ++ mrg (seg S i mid) (seg S j hi) = M) (hlo : lo ≤ k) (hi' : i < mid) (hj : hi ≤ j ∨ (S i).1 ≤ (S j).1) :
    seg (fun x => if x = k then S i else D x) lo (k + 1) ++ mrg (seg S (i + 1) mid) (seg S j hi) = M := by
  rw [put_seg D _ hlo, ← h, List.append_assoc]
  congr 1
  rw [seg_cons S hi']
  by_cases e : hi ≤ j
  · rw [seg_nil S e, mrg_cons_nil]; rfl
  · rw [seg_cons S (show j < hi by omega), mrg_cons_cons, if_pos (by rcases hj with h | h; exact absurd h e; exact h)]; rfl
theorem round_right {S D : Nat → E} {lo mid hi i j k : Nat} {M : List E} (h : seg D lo k ++ mrg (seg S i mid) (seg S j hi) = M) (hlo : lo ≤ k) (hj : j < hi) (hi' : mid ≤ i ∨ (S j).1 < (S i).1) :
    seg (fun x => if x = k then S j else D x) lo (k + 1) ++ mrg (seg S i mid) (seg S (j + 1) hi) = M := by
  rw [put_seg D _ hlo, ← h, List.append_assoc]
  congr 1
  rw [seg_cons S hj]
  by_cases e : mid ≤ i
  · rw [seg_nil S e, mrg_nil, mrg_nil]; rfl
  · rw [seg_cons S (show i < mid by omega), mrg_cons_cons, if_neg (by rcases hi' with h | h; exact absurd h e; omega)]; rfl

theorem mem_mrg : ∀ (xs ys : List E) (e : E), e ∈ mrg xs ys → e ∈ xs ∨ e ∈ ys
  | [], ys, e => fun h => Or.inr h
  | x :: xs, ys, e => by
    induction ys with
    | nil =>
      intro h
      rw [mrg_cons_nil] at h
      rcases List.mem_cons.1 h with rfl | h
      · simp
      · rcases mem_mrg xs [] e h with h | h
        · simp [h]
        · simp at h
    | cons y ys ih =>
      intro h
      rw [mrg_cons_cons] at h
      split at h
      · rcases List.mem_cons.1 h with rfl | h
        · simp
        · rcases mem_mrg xs (y :: ys) e h with h | h
          · simp [h]
          · exact Or.inr h
      · rcases List.mem_cons.1 h with rfl | h
        · simp
        · rcases ih h with h | h
          · exact Or.inl h
          · simp [h]

theorem mrg_st : ∀ (xs ys A B : List E), St xs A → St ys B → St (mrg xs ys) (A ++ B) := by
  have key : ∀ xs ys : List E, xs.Pairwise lt1 → ys.Pairwise lt1 → (mrg xs ys).Pairwise lt1 ∧ ∀ v : Int, (mrg xs ys).filter (fun e => e.1 == v) = xs.filter (fun e => e.1 == v) ++ ys.filter (fun e => e.1 == v) := by
    intro xs
    induction xs with
    | nil => intro ys _ hy; exact ⟨hy, fun v => rfl⟩
    | cons x xs ihx =>
      intro ys
      induction ys with
      | nil =>
        intro hx hy
        obtain ⟨p, q⟩ := ihx [] (List.pairwise_cons.1 hx).2 hy
        rw [mrg_cons_nil]
        refine ⟨List.pairwise_cons.2 ⟨fun e he => ?_, p⟩, fun v => ?_⟩
        · rcases mem_mrg xs [] e he with h | h
          · exact (List.pairwise_cons.1 hx).1 e h
          · simp at h
        · have := q v
          rw [List.filter_cons, this, List.filter_cons]
          split <;> simp
      | cons y ys ihy =>
        intro hx hy
        rw [mrg_cons_cons]
        by_cases hxy : x.1 ≤ y.1
        · rw [if_pos hxy]
          obtain ⟨p, q⟩ := ihx (y :: ys) (List.pairwise_cons.1 hx).2 hy
          refine ⟨List.pairwise_cons.2 ⟨fun e he => ?_, p⟩, fun v => ?_⟩
          · rcases mem_mrg xs (y :: ys) e he with h | h
            · exact (List.pairwise_cons.1 hx).1 e h
            · rcases List.mem_cons.1 h with rfl | h
              · exact hxy
              · exact Int.le_trans hxy ((List.pairwise_cons.1 hy).1 e h)
          · rw [List.filter_cons, q v, List.filter_cons (x := x)]
            split <;> simp
        · rw [if_neg hxy]
          obtain ⟨p, q⟩ := ihy hx (List.pairwise_cons.1 hy).2
          refine ⟨List.pairwise_cons.2 ⟨fun e he => ?_, p⟩, fun v => ?_⟩
          · rcases mem_mrg (x :: xs) ys e he with h | h
            · rcases List.mem_cons.1 h with rfl | h
              · show y.1 ≤ e.1; omega
              · have : x.1 ≤ e.1 := (List.pairwise_cons.1 hx).1 e h
                show y.1 ≤ e.1; omega
            · exact (List.pairwise_cons.1 hy).1 e h
          · rw [List.filter_cons, q v]
            by_cases hv : y.1 = v
            · have hnone : (x :: xs).filter (fun e => e.1 == v) = [] := by
                rw [List.filter_eq_nil_iff]
                intro e he
                have : x.1 ≤ e.1 := by
                  rcases List.mem_cons.1 he with rfl | h
                  · exact Int.le_refl _
                  · exact (List.pairwise_cons.1 hx).1 e h
                simp; omega
              rw [hnone, if_pos (by simpa using hv), List.filter_cons (x := y), if_pos (by simpa using hv)]
              simp
            · rw [if_neg (by simpa using hv), List.filter_cons (x := y), if_neg (by simpa using hv)]
  intro xs ys A B hx hy
  obtain ⟨p, q⟩ := key xs ys hx.1 hy.1
  exact ⟨p, fun v => by rw [q v, hx.2 v, hy.2 v, List.filter_append]⟩

theorem st_short (X : List E) (h : X.length ≤ 1) : St X X := by
  refine ⟨?_, fun v => rfl⟩
  match X, h with
  | [], _ => exact List.Pairwise.nil
  | [x], _ => simp

/-! ### The passes -/
/-- Every block of width d that begins below m is stably sorted. -/
def Blocks (m d : Nat) (f e : Nat → E) (up : Nat) : Prop := ∀ a, d ∣ a → a < m → a < up → St (seg f a (min (a + d) m)) (seg e a (min (a + d) m))
theorem dvd_gap {d a b : Nat} (h1 : d ∣ a) (h2 : d ∣ b) (h : a < b) : a + d ≤ b := by
  obtain ⟨x, rfl⟩ := h1
  obtain ⟨y, rfl⟩ := h2
  have hxy : x < y := Nat.lt_of_mul_lt_mul_left h
  have := Nat.mul_le_mul_left d (show x + 1 ≤ y from hxy)
  rwa [Nat.mul_succ] at this
theorem blocks_one (m : Nat) (e : Nat → E) (up : Nat) : Blocks m 1 e e up := by
  intro a _ _ _
  exact st_short _ (by rw [seg_length]; omega)
theorem blocks_step {m d lo : Nat} {S D D' e : Nat → E} (_hd : 0 < d) (hS : Blocks m d S e m) (hlo : 2 * d ∣ lo) (hlt : lo < m) (hD : Blocks m (2 * d) D e lo) (hsame : ∀ i, i < lo → D' i = D i)
    (hnew : seg D' lo (min (lo + 2 * d) m) = mrg (seg S lo (min (lo + d) m)) (seg S (min (lo + d) m) (min (lo + 2 * d) m))) : Blocks m (2 * d) D' e (lo + 2 * d) := by
  intro a ha ham hau
  by_cases h1 : a < lo
  · have := dvd_gap ha hlo h1
    rw [seg_congr (f := D') (g := D) (fun i _ hi => hsame i (by omega))]
    exact hD a ha ham h1
  · have hal : a = lo := by
      by_cases h2 : a = lo
      · exact h2
      · have := dvd_gap hlo ha (by omega)
        omega
    subst hal
    have dl : d ∣ a := Nat.dvd_trans (Nat.dvd_mul_left d 2) hlo
    rw [hnew, seg_append e (show a ≤ min (a + d) m by omega) (min (a + 2 * d) m) (by omega)]
    refine mrg_st _ _ _ _ (hS a dl ham ham) ?_
    by_cases h3 : a + d < m
    · have := hS (a + d) (Nat.dvd_add dl (Nat.dvd_refl d)) h3 h3
      rw [show min (a + d) m = a + d by omega]
      rwa [show a + d + d = a + 2 * d by omega] at this
    · rw [seg_nil S (by omega), seg_nil e (by omega)]
      exact st_short _ (by simp)
theorem blocks_all {m d up : Nat} {S e : Nat → E} (h : Blocks m d S e up) (hu : m ≤ up) : Blocks m d S e m := fun a ha ham _ => h a ha ham (by omega)
theorem blocks_end {m d : Nat} {S e : Nat → E} (h : Blocks m d S e m) (hd : m ≤ d) : St (seg S 0 m) (seg e 0 m) := by
  by_cases h0 : m = 0
  · subst h0; exact st_short _ (by simp [seg])
  · have := h 0 (Nat.dvd_zero d) (by omega) (by omega)
    rwa [show min (0 + d) m = m by omega] at this

/-! ### What the law reads off -/
theorem st_cnt {X A : List E} (h : St X A) (v : Nat) : cnt X v = cnt A v := by
  unfold cnt at_; rw [h.2 (v : Int)]
theorem st_mem {X A : List E} (h : St X A) {e : E} (he : e ∈ X) : e ∈ A := by
  have : e ∈ X.filter (fun x => x.1 == e.1) := List.mem_filter.2 ⟨he, by simp⟩
  rw [h.2 e.1] at this
  exact (List.mem_filter.1 this).1
theorem st_below {X A : List E} (h : St X A) (h0 : ∀ e ∈ A, 0 ≤ e.1) (v : Nat) : below X v = below A v := by
  induction v with
  | zero => rw [below_zero A h0, below_zero X (fun e he => h0 e (st_mem h he))]
  | succ v ih => rw [below_succ, below_succ, ih, st_cnt h]
/-- In a sorted list the first 'below X v' edges are those that leave a node below v. -/
theorem sorted_below : ∀ (X : List E), X.Pairwise lt1 → ∀ (v j : Nat), j < X.length → ((X.getD j (0, 0)).1 < (v : Int) ↔ j < below X v)
  | [], _, v, j, h => by simp at h
  | x :: X, hp, v, j, h => by
    have hp' := List.pairwise_cons.1 hp
    have hb : below (x :: X) v = if x.1 < (v : Int) then below X v + 1 else below X v := by
      unfold below; rw [List.filter_cons]; split <;> split <;> simp_all
    by_cases hx : x.1 < (v : Int)
    · rw [hb, if_pos hx]
      cases j with
      | zero => simp [hx]
      | succ j =>
        have := sorted_below X hp'.2 v j (by simpa using h)
        simp only [List.getD_cons_succ]
        rw [this]; omega
    · have hz : below X v = 0 := by
        unfold below
        rw [List.filter_eq_nil_iff.2]
        · rfl
        · intro e he
          have : x.1 ≤ e.1 := hp'.1 e he
          simp; omega
      rw [hb, if_neg hx, hz]
      cases j with
      | zero => simp; omega
      | succ j =>
        have := sorted_below X hp'.2 v j (by simpa using h)
        simp only [List.getD_cons_succ]
        rw [this, hz]; omega
theorem sorted_at : ∀ (X : List E), X.Pairwise lt1 → ∀ (v j : Nat), j < cnt X v → (X.getD (below X v + j) (0, 0)).2 = (bucket X v).getD j 0
  | [], _, v, j, h => by simp [cnt, at_] at h
  | x :: X, hp, v, j, h => by
    have hp' := List.pairwise_cons.1 hp
    have hb : below (x :: X) v = if x.1 < (v : Int) then below X v + 1 else below X v := by
      unfold below; rw [List.filter_cons]; split <;> split <;> simp_all
    have ha : at_ (x :: X) v = if x.1 = (v : Int) then x :: at_ X v else at_ X v := by
      unfold at_; rw [List.filter_cons]; split <;> split <;> simp_all
    by_cases hx : x.1 < (v : Int)
    · have hc : cnt (x :: X) v = cnt X v := by unfold cnt; rw [ha, if_neg (by omega)]
      have hk : bucket (x :: X) v = bucket X v := by unfold bucket; rw [ha, if_neg (by omega)]
      rw [hb, if_pos hx, hk, show below X v + 1 + j = (below X v + j) + 1 by omega, List.getD_cons_succ]
      exact sorted_at X hp'.2 v j (by omega)
    · have hz : below X v = 0 := by
        unfold below
        rw [List.filter_eq_nil_iff.2]
        · rfl
        · intro e he
          have : x.1 ≤ e.1 := hp'.1 e he
          simp; omega
      rw [hb, if_neg hx, hz, Nat.zero_add]
      by_cases he : x.1 = (v : Int)
      · have hc : cnt (x :: X) v = cnt X v + 1 := by unfold cnt; rw [ha, if_pos he]; rfl
        have hk : bucket (x :: X) v = x.2 :: bucket X v := by unfold bucket; rw [ha, if_pos he]; rfl
        rw [hk]
        cases j with
        | zero => rfl
        | succ j =>
          have := sorted_at X hp'.2 v j (by omega)
          rw [hz, Nat.zero_add] at this
          simpa using this
      · exfalso
        have hc : cnt (x :: X) v = cnt X v := by unfold cnt; rw [ha, if_neg he]
        have h0 : cnt X v = 0 := by
          unfold cnt at_
          rw [List.filter_eq_nil_iff.2]
          · rfl
          · intro e hm
            have : x.1 ≤ e.1 := hp'.1 e hm
            simp; omega
        omega

/-- 'to' holds what the sorted edges lead to. -/
theorem st_to {X es : List E} {n : Nat} {T : Nat → Int} (hs : St X es) (hI : In n es) (hl : X.length = es.length) (hT : ToOk es n es.length T) (i : Nat) (hi : i < es.length) : T i = (X.getD i (0, 0)).2 := by
  have hX : ∀ e ∈ X, 0 ≤ e.1 ∧ e.1 < (n : Int) := fun e he => hI.mem e (st_mem hs he)
  have hiX : i < X.length := by omega
  have hm : X.getD i (0, 0) ∈ X := by
    rw [List.getD_eq_getElem?_getD, List.getElem?_eq_getElem hiX]; exact List.getElem_mem hiX
  obtain ⟨q1, q2⟩ := hX _ hm
  obtain ⟨v, hv⟩ := Int.eq_ofNat_of_zero_le q1
  have hvn : v < n := by omega
  have b1 := sorted_below X hs.1 v i hiX
  have b2 := sorted_below X hs.1 (v + 1) i hiX
  have b3 := below_succ X v
  have lo : below X v ≤ i := by
    by_cases h : i < below X v
    · have := b1.2 h; omega
    · omega
  have hi' : i < below X (v + 1) := b2.1 (by omega)
  have hj : i - below X v < cnt X v := by omega
  have h1 := sorted_at X hs.1 v (i - below X v) hj
  rw [show below X v + (i - below X v) = i by omega] at h1
  rw [h1]
  have h2 := toOk_end hT v hvn (i - below X v) (by rw [← st_cnt hs]; exact hj)
  have h3 : below es v = below X v := (st_below hs (fun e he => (hI.mem e he).1) v).symm
  rw [h3, show below X v + (i - below X v) = i by omega] at h2
  rw [h2]
  unfold bucket at_
  rw [hs.2 (v : Int)]

end Go.Proofs.Qxb6627878a.mrg
