/-
  Rows.FnSpaceAcrossAJoinSaid proved: the frame is the given shell's; the walk is ours, over Space's contract (Qxb6627788aSpace).
-/
import Derived.Test.Qxb6627788aRows
import Derived.WalkKit
import Derived.ProofKit
import Derived.OpenShut
import Derived.ShutString
import Derived.ChangeOld
import Derived.Below
import Derived.Test.Qxb6627788aSpace
import Derived.Outline
namespace Go.Proofs.Qxb6627788a.fnSpaceAcrossAJoin
open Go.ChangeShapes Go.WideShapes Go.ChangeAt Go.RowKit
open Go.ChangeMaps (open_string shut_string)
open Go.Proofs.Qxb6627788a.space
set_option linter.unusedVariables false

theorem own : ownKnob Try.prog.godebug = none := by kernel_rfl
theorem laidOut : laidOutB Try.prog = true := by kernel_rfl

/-- WHAT THE WALK IS TOLD OF A SLICE OF INTEGERS THAT CAME IN: it is nil; or it leads to a row of 'cap' cells, the numbers 'zs' (the first 'len' are its elements, the rest its spare room), each fitting its kind. -/
def IsRow (k : IntKind) (w : World) (a : Option Addr) (len cap : Nat) (zs : List Int) : Prop :=
  (a = none ∧ len = 0 ∧ cap = 0 ∧ zs = []) ∨
  ∃ x, a = some x ∧ len ≤ cap ∧ cap ≤ maxLen ∧ zs.length = cap ∧ (∀ i, i < zs.length → w.cell? (x.add i) = some (.int k (zs.getD i 0))) ∧ ∀ n ∈ zs, (Lit.int k n).wf = true

/-! ### THE PLAIN LAW: no Go in sight -/
theorem stops_le {f : Nat → Int} {n k j : Nat} (h : Stops f n k j) (hk : k ≤ n) : k ≤ j ∧ j ≤ n := by
  by_cases e : k < n
  · exact ⟨(h.2 e).1, (h.2 e).2.1⟩
  · have := h.1 (by omega); omega
theorem stops_sp {f : Nat → Int} {n k j : Nat} (h : Stops f n k j) (hk : k ≤ n) {i : Nat} (h1 : k ≤ i) (h2 : i < j) : isSp (f i) = true := by
  by_cases e : k < n
  · exact (h.2 e).2.2.1 i h1 h2
  · have := h.1 (by omega); omega
theorem stops_end {f : Nat → Int} {n k j : Nat} (h : Stops f n k j) (hk : k ≤ n) (hj : j < n) : isSp (f j) = false := by
  by_cases e : k < n
  · exact (h.2 e).2.2.2 hj
  · have := h.1 (by omega); omega
theorem stops_mk {f : Nat → Int} {n k j : Nat} (h1 : k ≤ j) (h2 : j ≤ n) (h3 : ∀ i, k ≤ i → i < j → isSp (f i) = true) (h4 : j < n → isSp (f j) = false) : Stops f n k j :=
  ⟨fun h => by omega, fun _ => ⟨h1, h2, h3, h4⟩⟩
theorem stops_unique {f : Nat → Int} {n k j j' : Nat} (hk : k ≤ n) (h : Stops f n k j) (h' : Stops f n k j') : j = j' := by
  have a := stops_le h hk
  have b := stops_le h' hk
  rcases Nat.lt_trichotomy j j' with hlt | he | hgt
  · have x := stops_end h hk (by omega)
    have y := stops_sp h' hk a.1 hlt
    rw [x] at y; cases y
  · exact he
  · have x := stops_end h' hk (by omega)
    have y := stops_sp h hk b.1 hgt
    rw [x] at y; cases y
theorem stops_again {f : Nat → Int} {n k j j' : Nat} (hk : k ≤ n) (h : Stops f n k j) (h' : Stops f n j j') : j' = j := by
  have a := stops_le h hk
  exact stops_unique a.2 h' (stops_mk (Nat.le_refl _) a.2 (fun i h1 h2 => by omega) (fun hlt => stops_end h hk hlt))

/-- The bytes of the joined slice. -/
def fjoin (f g : Nat → Int) (n i : Nat) : Int := if i < n then f i else g (i - n)

theorem stops_join1 {f g : Nat → Int} {n m k j jj : Nat} (hk : k ≤ n) (h : Stops f n k j) (hj : j < n) (h' : Stops (fjoin f g n) (n + m) k jj) : jj = j := by
  have a := stops_le h hk
  refine stops_unique (show k ≤ n + m by omega) h' (stops_mk a.1 (by omega) (fun i h1 h2 => ?_) (fun _ => ?_))
  · rw [fjoin, if_pos (by omega)]; exact stops_sp h hk h1 h2
  · rw [fjoin, if_pos hj]; exact stops_end h hk hj
theorem stops_join2 {f g : Nat → Int} {n m k jb jj : Nat} (hk : k ≤ n) (h : Stops f n k n) (hb : Stops g m 0 jb) (h' : Stops (fjoin f g n) (n + m) k jj) : jj = n + jb := by
  have b := stops_le hb (Nat.zero_le _)
  refine stops_unique (show k ≤ n + m by omega) h' (stops_mk (by omega) (by omega) (fun i h1 h2 => ?_) (fun hlt => ?_))
  · by_cases e : i < n
    · rw [fjoin, if_pos e]; exact stops_sp h hk h1 e
    · rw [fjoin, if_neg e]; exact stops_sp hb (Nat.zero_le _) (Nat.zero_le _) (by omega)
  · rw [fjoin, if_neg (by omega)]
    have e : n + jb - n = jb := by omega
    rw [e]
    exact stops_end hb (Nat.zero_le _) (by omega)

/-! ### WHAT IS TOLD OF THE ARGUMENTS -/
theorem row_of {w : World} {a : Option Addr} {len cap : Nat} {zs : List Int} (h : IsRow .u8 w a len cap zs) : Row w w.heap.size a len (fun i => zs.getD i 0) := by
  intro hl
  rcases h with ⟨_, h0, _⟩ | ⟨x, rfl, h1, _, hz, hc, _⟩
  · omega
  · obtain ⟨b, off, spot⟩ := x
    have h0 := hc 0 (by omega)
    have hs : spot = none := by simpa [Addr.add] using World.cell?_spot h0
    subst hs
    have hb : b < w.heap.size := by simpa [Addr.add] using block_lt_of_cell h0
    exact ⟨b, off, rfl, hb, fun i hi => by rw [← add_plain]; exact hc i (by omega)⟩

/-- The values of the first 'len' bytes. -/
def vals (f : Nat → Int) (len : Nat) : List Value := (List.range len).map fun i => .int .u8 (f i)
theorem vals_length (f : Nat → Int) (len : Nat) : (vals f len).length = len := by simp [vals]
theorem vals_one (f : Nat → Int) (len : Nat) : ∀ u ∈ vals f len, u.oneCell' = true := by
  intro u hu
  obtain ⟨_, _, rfl⟩ := List.mem_map.1 hu
  rfl
theorem vals_at {f : Nat → Int} {len j : Nat} {u : Value} (h : (vals f len)[j]? = some u) : j < len ∧ u = .int .u8 (f j) := by
  have hj : j < len := by simpa [vals] using (List.getElem?_eq_some_iff.1 h).1
  refine ⟨hj, ?_⟩
  simp [vals, hj] at h
  exact h.symm
theorem row_cells {w : World} {B : Nat} {a : Option Addr} {len : Nat} {f : Nat → Int} (h : Row w B a len f) : ∀ ad, a = some ad → ∀ j u, (vals f len)[j]? = some u → w.cell? (ad.add j) = some u := by
  intro ad ha j u hu
  obtain ⟨hj, rfl⟩ := vals_at hu
  obtain ⟨b, off, ha', _, hc⟩ := h (by omega)
  rw [ha'] at ha
  cases ha
  rw [add_plain]
  exact hc j hj
theorem vals_join (f g : Nat → Int) (n m i : Nat) (hi : i < n + m) : (vals f n ++ vals g m)[i]? = some (.int .u8 (fjoin f g n i)) := by
  rw [List.getElem?_append, vals_length]
  by_cases e : i < n
  · rw [if_pos e, fjoin, if_pos e]; simp [vals, e]
  · have e2 : i - n < m := by omega
    rw [if_neg e, fjoin, if_neg e]; simp [vals, e2]
theorem row_joined {w : World} {base g n m cap B : Nat} {f h : Nat → Int} (ho : w.ownsRow base 5 1 (.slice (some ⟨g, 0, none⟩) (n + m) cap) (n + m) (vals f n ++ vals h m)) (hB : g < B) : Row w B (some ⟨g, 0, none⟩) (n + m) (fjoin f h n) := by
  intro hl
  refine ⟨g, 0, rfl, hB, fun i hi => ?_⟩
  have h1 := ho.cellAt i (by simpa using hi)
  rw [vals_join f h n m i hi] at h1
  simpa using h1

theorem owns_lt {w : World} {base n cap g : Nat} {xs : List Value} (ho : w.ownsRow base 5 1 (.slice (some ⟨g, 0, none⟩) n cap) n xs) : g < w.heap.size := by
  rcases ho.2 with ⟨h', _⟩ | ⟨g', cap', cur, h', _, hg, _⟩
  · simp at h'
  · simp only [Value.slice.injEq, Option.some.injEq, Addr.mk.injEq, and_true, true_and] at h'
    obtain ⟨rfl, rfl⟩ := h'
    exact lt_of_block hg

/-- Space on a reader that has just been boxed. -/
theorem space_box (a : Option Addr) (len cap : Nat) (f : Nat → Int) (k : Nat) (x d : Int) (W : World) (hx : x = (k : Int)) (hl : len ≤ 1048576) (hk2 : k ≤ 9223372036854775807) (hrow : Row W W.heap.size a len f) :
    Calls Try.prog 6 #[.pointer (some ⟨W.heap.size, 0, none⟩)] (W.alloc (.cells #[.slice a len cap, .int .i64 x, .int .i64 d, .slice none 0 0] 27)) fun e w' =>
      ∃ j, e = .returned (.tuple #[]) ∧ Stops f len k j ∧ Rd w' W.heap.size a len cap j d ∧ W.heap.size < w'.heap.size ∧ Below W.heap.size W w' := by
  subst hx
  have hb := (Below.refl W.heap.size W).alloc (Nat.le_refl _) (.cells #[.slice a len cap, .int .i64 k, .int .i64 d, .slice none 0 0] 27)
  refine (space_any W.heap.size a len cap f k d _ (heap_alloc_new _ _) hl hk2 (hrow.below hb (Nat.le_refl _))).mono fun e w' ⟨j, he, h1, h2, h3, h4⟩ => ?_
  exact ⟨j, he, h1, h2, by rw [h3]; simp, hb.trans h4⟩

theorem Try.info5 : (Try.prog.info? 5).map (fun i => (i.zero, i.size, i.bytes)) = some (some (.int .u8 0), 1, 1) := by kernel_rfl

/-! ### STEP 1: THE WALK -/
/-- The shut-out inputs: true at once. -/
theorem walk_out (a0 : Option Addr) (len0 cap0 : Nat) (a1 : Option Addr) (len1 cap1 : Nat) (a2 : Int) (a3 : Int) (w : World) (h : 524288 < len0 ∨ 524288 < len1 ∨ a2 < 0 ∨ (len0 : Int) < a2) (hm0 : len0 ≤ 9223372036854775807) (hm1 : len1 ≤ 9223372036854775807) :
    Calls Try.prog 4 #[.slice a0 len0 cap0, .slice a1 len1 cap1, .int .i64 a2, .int .i64 a3] w fun e w' => e = .returned (.bool true) ∧ Below w.heap.size w w' := by
  go_enter Try.func4, Try.ntmps4
  go_wp2
  all_goals
    go_ret
    exact ⟨rfl, Below.refl _ _⟩

set_option maxHeartbeats 1600000 in
set_option maxRecDepth 1000000 in
theorem walk_in (a0 : Option Addr) (len0 cap0 : Nat) (a1 : Option Addr) (len1 cap1 : Nat) (f g : Nat → Int) (k : Nat) (d : Int) (w : World) (hl0 : len0 ≤ 524288) (hl1 : len1 ≤ 524288) (hk : k ≤ len0)
    (r0 : Row w w.heap.size a0 len0 f) (r1 : Row w w.heap.size a1 len1 g) (n0 : a0 = none → len0 = 0 ∧ cap0 = 0) (n1 : a1 = none → len1 = 0 ∧ cap1 = 0) :
    Calls Try.prog 4 #[.slice a0 len0 cap0, .slice a1 len1 cap1, .int .i64 k, .int .i64 d] w fun e w' => e = .returned (.bool true) ∧ Below w.heap.size w w' := by
  obtain ⟨i0, hi, hz0, hz1, hz2⟩ := info_parts Try.info5
  have b1 : ¬ (len0 : Int) < k := by omega
  go_enter Try.func4, Try.ntmps4
  go_wp2_with (first
    | (at_make; refine wpList_make_own _ rfl _ _ 22 rfl w.heap.size 5 i0 (.int .u8 0) 1 Try.underlying22 hi hz0 hz1 _ _ _ (len0 + len1) rfl rfl (by omega) (by rw [hz2]; omega) (by unfold maxLen; omega) (Nat.le_refl _) ?_; intro w1 hown1 hgrow1; have bl1 := (Below.refl w.heap.size w).grown hgrow1 (Nat.le_refl _) (fun k h => by cases h); have s0 := r0.below bl1 (Nat.le_refl _))
    | (at_builtin; refine wpList_append_fits_any _ rfl (.tmp 41) (.tmp 42) 22 rfl w.heap.size 5 i0 1 Try.underlying22 hi hz1 w.heap.size 0 (len0 + len1) _ rfl hown1 a0 len0 cap0 (vals f len0) rfl (by simp [vals_length]) n0 (row_cells s0) (vals_one _ _) (by omega) ?_; intro w2 hown2 hgrow2; simp only [Nat.zero_add, List.nil_append] at hown2; have bl2 := bl1.grown hgrow2 bl1.size (fun k h => by cases h; exact Nat.le_refl _); have s1 := r1.below bl2 (Nat.le_refl _))
    | (at_builtin; refine wpList_append_fits_any _ rfl (.tmp 44) (.tmp 45) 22 rfl w.heap.size 5 i0 1 Try.underlying22 hi hz1 w.heap.size len0 (len0 + len1) _ rfl hown2 a1 len1 cap1 (vals g len1) rfl (by simp [vals_length]) n1 (row_cells s1) (vals_one _ _) (by omega) ?_; intro w3 hown3 hgrow3; have bl3 := bl2.grown hgrow3 bl2.size (fun k h => by cases h; exact Nat.le_refl _))
    | (go_at_call 8; go_in))
  have hN : w.heap.size < w3.heap.size := owns_lt hown3
  have q0 : Row w3 w3.heap.size a0 len0 f := r0.below bl3 (Nat.le_of_lt hN)
  have q1 : Row w3 w3.heap.size a1 len1 g := r1.below bl3 (Nat.le_of_lt hN)
  have qj : Row w3 w3.heap.size (some ⟨w.heap.size, 0, none⟩) (len0 + len1) (fjoin f g len0) := row_joined hown3 hN
  clear hown1 hown2 hown3 hgrow1 hgrow2 hgrow3 s0 s1 bl1 bl2 r0 r1 w1 w2 n0 n1
  refine (space_box a0 len0 cap0 f k _ d w3 rfl (by omega) (by omega) q0).mono ?_
  rintro e w4 ⟨ja, rfl, st4, R4, sz4, b4⟩
  have c1 := R4.c1
  have lj := stops_le st4 hk
  have bl4 := bl3.trans (b4.mono (Nat.le_of_lt hN))
  have q1' := q1.below b4 (show w3.heap.size ≤ w4.heap.size by omega)
  have qj' := qj.below b4 (show w3.heap.size ≤ w4.heap.size by omega)
  clear q0 q1 qj b4 R4
  by_cases hja : ja = len0
  · have kb : ((ja : Int) == (len0 : Int)) = true := by simp [hja]
    have st4' : Stops f len0 k len0 := hja ▸ st4
    have ha : Hid (ja = len0) := hja
    clear hja
    go_wp2_with fail
    refine (space_box a1 len1 cap1 g 0 _ d w4 rfl (by omega) (by omega) q1').mono ?_
    rintro e w5 ⟨jb, rfl, st5, R5, sz5, b5⟩
    have c1 := R5.c1
    have lb := stops_le st5 (Nat.zero_le _)
    have bl5 := bl4.trans (b5.mono (by omega))
    have qj5 := qj'.below b5 (show w4.heap.size ≤ w5.heap.size by omega)
    clear qj' q1' b5 R5
    go_wp2_with fail
    refine (space_box _ (len0 + len1) (len0 + len1) (fjoin f g len0) k _ d w5 rfl (by omega) (by omega) qj5).mono ?_
    rintro e w6 ⟨jj, rfl, st6, R6, sz6, b6⟩
    have c1 := R6.c1
    have c2 := R6.c2
    have bl6 := bl5.trans (b6.mono (by omega))
    have qj6 := qj5.below b6 (Nat.le_refl _)
    have hjj : jj = len0 + jb := stops_join2 hk st4' st5 st6
    have lj2 := stops_le st6 (by omega)
    have nb : ((jj : Int) != ((len0 : Int) + (jb : Int))) = false := by simp; omega
    clear qj5
    by_cases hend : jj = len0 + len1
    · have kc : ((jj : Int) != (len0 : Int) + (len1 : Int)) = false := by simp; omega
      have hj1 : Hid (jj = len0 + jb) := hjj
      have hj2 : Hid (jj = len0 + len1) := hend
      clear hjj hend
      go_wp2_with fail
      refine (space_any w5.heap.size _ (len0 + len1) (len0 + len1) (fjoin f g len0) jj d _ R6 (by omega) (by omega) qj6).mono ?_
      rintro e w7 ⟨j7, rfl, st7, R7, sz7, b7⟩
      have hj7 : j7 = jj := stops_again (by omega) st6 st7
      subst hj7
      have c1 := R7.c1
      have c2 := R7.c2
      go_wp2_with fail
      go_ret
      exact ⟨by simp, bl6.trans (b7.mono (by omega))⟩
    · have kc : ((jj : Int) != (len0 : Int) + (len1 : Int)) = true := by simp; omega
      have hlt : jj < len0 + len1 := by omega
      have hj1 : Hid (jj = len0 + jb) := hjj
      clear hjj hend
      obtain ⟨bj, oj, haj, hbj, hcj⟩ := qj6 (by omega)
      cases haj
      have cj := hcj jj hlt
      rw [Nat.zero_add] at cj
      have hs : Hid (isSp (fjoin f g len0 jj) = false) := stops_end st6 (by omega) hlt
      clear hcj
      go_wp2_with (go_at_call 7; refine (isSpace_any _ _ false hs.out).mono ?_; rintro e w8 ⟨rfl, rfl⟩)
      refine (space_any w5.heap.size _ (len0 + len1) (len0 + len1) (fjoin f g len0) jj d _ R6 (by omega) (by omega) qj6).mono ?_
      rintro e w7 ⟨j7, rfl, st7, R7, sz7, b7⟩
      have hj7 : j7 = jj := stops_again (by omega) st6 st7
      subst hj7
      have c1 := R7.c1
      have c2 := R7.c2
      go_wp2_with fail
      go_ret
      exact ⟨by simp, bl6.trans (b7.mono (by omega))⟩
  · have kb : ((ja : Int) == (len0 : Int)) = false := by simp; omega
    have hja2 : ja < len0 := by omega
    clear hja
    go_wp2_with fail
    have bl5 := bl4
    have qj5 := qj'
    clear bl4 qj'
    refine (space_box _ (len0 + len1) (len0 + len1) (fjoin f g len0) k _ d w4 rfl (by omega) (by omega) qj5).mono ?_
    rintro e w6 ⟨jj, rfl, st6, R6, sz6, b6⟩
    have c1 := R6.c1
    have c2 := R6.c2
    have bl6 := bl5.trans (b6.mono (by omega))
    have qj6 := qj5.below b6 (Nat.le_refl _)
    have hjj : jj = ja := stops_join1 hk st4 hja2 st6
    have lj2 := stops_le st6 (by omega)
    have nb : ((jj : Int) != (ja : Int)) = false := by simp; omega
    clear qj5
    by_cases hend : jj = len0 + len1
    · have kc : ((jj : Int) != (len0 : Int) + (len1 : Int)) = false := by simp; omega
      have hj1 : Hid (jj = ja) := hjj
      have hj2 : Hid (jj = len0 + len1) := hend
      clear hjj hend
      go_wp2_with fail
      refine (space_any w4.heap.size _ (len0 + len1) (len0 + len1) (fjoin f g len0) jj d _ R6 (by omega) (by omega) qj6).mono ?_
      rintro e w7 ⟨j7, rfl, st7, R7, sz7, b7⟩
      have hj7 : j7 = jj := stops_again (by omega) st6 st7
      subst hj7
      have c1 := R7.c1
      have c2 := R7.c2
      go_wp2_with fail
      go_ret
      exact ⟨by simp, bl6.trans (b7.mono (by omega))⟩
    · have kc : ((jj : Int) != (len0 : Int) + (len1 : Int)) = true := by simp; omega
      have hlt : jj < len0 + len1 := by omega
      have hj1 : Hid (jj = ja) := hjj
      clear hjj hend
      obtain ⟨bj, oj, haj, hbj, hcj⟩ := qj6 (by omega)
      cases haj
      have cj := hcj jj hlt
      rw [Nat.zero_add] at cj
      have hs : Hid (isSp (fjoin f g len0 jj) = false) := stops_end st6 (by omega) hlt
      clear hcj
      go_wp2_with (go_at_call 7; refine (isSpace_any _ _ false hs.out).mono ?_; rintro e w8 ⟨rfl, rfl⟩)
      refine (space_any w4.heap.size _ (len0 + len1) (len0 + len1) (fjoin f g len0) jj d _ R6 (by omega) (by omega) qj6).mono ?_
      rintro e w7 ⟨j7, rfl, st7, R7, sz7, b7⟩
      have hj7 : j7 = jj := stops_again (by omega) st6 st7
      subst hj7
      have c1 := R7.c1
      have c2 := R7.c2
      go_wp2_with fail
      go_ret
      exact ⟨by simp, bl6.trans (b7.mono (by omega))⟩

theorem walk (a0 : Option Addr) (len0 cap0 : Nat) (z0 : List Int) (a1 : Option Addr) (len1 cap1 : Nat) (z1 : List Int) (a2 : Int) (a3 : Int) (w : World) (w0 : IsRow .u8 w a0 len0 cap0 z0) (w1 : IsRow .u8 w a1 len1 cap1 z1) (w2 : (Lit.int .i64 a2).wf = true) (w3 : (Lit.int .i64 a3).wf = true) :
    Calls Try.prog 4 #[.slice a0 len0 cap0, .slice a1 len1 cap1, .int .i64 a2, .int .i64 a3] w fun e w' => e = .returned (.bool true) ∧ Below w.heap.size w w' := by
  have hm0 : len0 ≤ 9223372036854775807 := by
    rcases w0 with ⟨_, h0, _⟩ | ⟨_, _, h1, h2, _⟩
    · omega
    · unfold maxLen at h2; omega
  have hm1 : len1 ≤ 9223372036854775807 := by
    rcases w1 with ⟨_, h0, _⟩ | ⟨_, _, h1, h2, _⟩
    · omega
    · unfold maxLen at h2; omega
  have n0 : a0 = none → len0 = 0 ∧ cap0 = 0 := by
    rcases w0 with ⟨_, h0, h1, _⟩ | ⟨_, h, _⟩
    · exact fun _ => ⟨h0, h1⟩
    · intro e; rw [e] at h; cases h
  have n1 : a1 = none → len1 = 0 ∧ cap1 = 0 := by
    rcases w1 with ⟨_, h0, h1, _⟩ | ⟨_, h, _⟩
    · exact fun _ => ⟨h0, h1⟩
    · intro e; rw [e] at h; cases h
  by_cases h : 524288 < len0 ∨ 524288 < len1 ∨ a2 < 0 ∨ (len0 : Int) < a2
  · exact walk_out a0 len0 cap0 a1 len1 cap1 a2 a3 w h hm0 hm1
  · obtain ⟨k, rfl⟩ := Int.eq_ofNat_of_zero_le (show 0 ≤ a2 by omega)
    exact walk_in a0 len0 cap0 a1 len1 cap1 _ _ k a3 w (by omega) (by omega) (by omega) (row_of w0) (row_of w1) n0 n1

/-! ### THE ROW's STEP: WRITTEN OUT: LEAVE IT -/
set_option maxRecDepth 100000 in
theorem lifted (os : Os) (started : os.Started) (H : Type) (enc : TypeId × Value → H) :
    ReturnsInHanded {} Try.checked os 4 .any (Rows.fnSpaceAcrossAJoinSpec.pre6 enc Try.prog Try.f4 Rows.fnSpaceAcrossAJoinRow.domain false) (Rows.fnSpaceAcrossAJoinSpec.post enc Try.prog Try.f4 false true false false) := by
  refine returnsInHanded_of_change (C := Try.checked) own started (by kernel_rfl) Try.func4
    (ChangeSpec.witness6 (enc := enc) (C := Try.checked) false ⟨#[], #[.slice none 0 0, .slice none 0 0, .int .i64 0, .int .i64 0], []⟩ 8 (by kernel_rfl) (by kernel_rfl) (by kernel_rfl) (by kernel_rfl)) ?_
  intro W base args ds gs before hval0 hW hcnd _
  have hval : ∀ (j : Nat) t v, Try.f4.params[j]? = some t → args[j]? = some v → Value.okWide Try.prog W .any base t v := hval0
  have hW' := hW
  obtain ⟨p, q, hA0, hV, rfl, hfz, hnd⟩ := hW
  have hA : DataW.TrodAll enc Try.prog W 0 (fun _ => true) true Try.f4.params.toList args.toList ds p := hA0
  rw [Try.params4] at hA hval
  obtain ⟨v0, vs0, d0, ds0, p0, q0, hargs, rfl, rfl, h0, r0⟩ := trodAll_cons hA
  obtain ⟨v1, vs1, d1, ds1, p1, q1, rfl, rfl, rfl, h1, r1⟩ := trodAll_cons r0
  obtain ⟨v2, vs2, d2, ds2, p2, q2, rfl, rfl, rfl, h2, r2⟩ := trodAll_cons r1
  obtain ⟨v3, vs3, d3, ds3, p3, q3, rfl, rfl, rfl, h3, r3⟩ := trodAll_cons r2
  obtain ⟨rfl, rfl, rfl⟩ := trodAll_nil r3
  obtain rfl : args = #[v0, v1, v2, v3] := by cases args; simp_all
  obtain ⟨rfl, rfl⟩ := trodVars_none hV
  obtain ⟨a0, len0, cap0, rfl⟩ := okWide_slice Try.underlying22 (hval 0 22 v0 rfl rfl)
  have k0 := h0
  have lt0 : ∀ x ∈ p0, x.block < W.heap.size := by obtain ⟨m, hm⟩ := k0; exact DataW.trod_lt m _ _ _ hm
  obtain ⟨z0, w0⟩ : ∃ zs, IsRow .u8 W a0 len0 cap0 zs := by
    obtain ⟨fuel, hf⟩ := h0
    rcases open_ints Try.underlying22 Try.underlying5 (by kernel_rfl) hf with ⟨hcs, _⟩ | ⟨x, l, c, zs, hcs, _, hl, hm, hz, _, hcell, hwz⟩
    · simp [Value.cells] at hcs
      obtain ⟨rfl, rfl, rfl⟩ := hcs
      exact ⟨[], .inl ⟨rfl, rfl, rfl, rfl⟩⟩
    · simp [Value.cells] at hcs
      obtain ⟨rfl, rfl, rfl⟩ := hcs
      exact ⟨zs, .inr ⟨_, rfl, hl, hm, by simpa using hz, hcell, hwz⟩⟩
  obtain ⟨a1, len1, cap1, rfl⟩ := okWide_slice Try.underlying22 (hval 1 22 v1 rfl rfl)
  have k1 := h1
  have lt1 : ∀ x ∈ p1, x.block < W.heap.size := by obtain ⟨m, hm⟩ := k1; exact DataW.trod_lt m _ _ _ hm
  obtain ⟨z1, w1⟩ : ∃ zs, IsRow .u8 W a1 len1 cap1 zs := by
    obtain ⟨fuel, hf⟩ := h1
    rcases open_ints Try.underlying22 Try.underlying5 (by kernel_rfl) hf with ⟨hcs, _⟩ | ⟨x, l, c, zs, hcs, _, hl, hm, hz, _, hcell, hwz⟩
    · simp [Value.cells] at hcs
      obtain ⟨rfl, rfl, rfl⟩ := hcs
      exact ⟨[], .inl ⟨rfl, rfl, rfl, rfl⟩⟩
    · simp [Value.cells] at hcs
      obtain ⟨rfl, rfl, rfl⟩ := hcs
      exact ⟨zs, .inr ⟨_, rfl, hl, hm, by simpa using hz, hcell, hwz⟩⟩
  obtain ⟨a2, rfl, rfl, rfl, w2⟩ := open_int Try.underlying3 (hval 2 3 v2 rfl rfl) h2
  obtain ⟨a3, rfl, rfl, rfl, w3⟩ := open_int Try.underlying3 (hval 3 3 v3 rfl rfl) h3
  clear hA0 hval0
  refine (walk a0 len0 cap0 z0 a1 len1 cap1 z1 a2 a3 W w0 w1 w2 w3).mono fun e W' ⟨he, bel⟩ => ?_
  subst he
  exact ⟨_, rfl, _, _, _, [], _, [], hW', trodAll_mk1 (shut_bool Try.underlying4 _), (trodAll_cons_mk (Below.trod laidOut (by kernel_rfl) (of_decide_eq_true (by kernel_rfl)) k0 bel lt0) (trodAll_cons_mk (Below.trod laidOut (by kernel_rfl) (of_decide_eq_true (by kernel_rfl)) k1 bel lt1) (trodAll_cons_mk (shut_int Try.underlying3 w2) (trodAll_cons_mk (shut_int Try.underlying3 w3) trodAll_mk0)))), rfl, bel.frame _, fun h => by cases h⟩

theorem over : Rows.fnSpaceAcrossAJoinRow.holds Try.pinned (OpenSpec.ofChange Rows.fnSpaceAcrossAJoinSpec) :=
  OpenClaim.holds_of_wide 4 Try.f4 rfl rfl rfl rfl rfl rfl rfl ⟨rfl, rfl, rfl, rfl, rfl⟩ rfl rfl rfl rfl rfl (by kernel_rfl) Try.func4 (by kernel_rfl)
    (of_decide_eq_true (by kernel_rfl)) (by unfold Func.isWrapper; first | (rw [if_pos (by decide +kernel)]; kernel_rfl) | (rw [if_neg (by decide +kernel)]; exact ⟨rfl, rfl⟩))
    (fun os started H enc _ => lifted os started H enc)

/-- ████ THE STATEMENT ████ -/
theorem proved : Rows.FnSpaceAcrossAJoinSaid := over
#print axioms proved
end Go.Proofs.Qxb6627788a.fnSpaceAcrossAJoin
