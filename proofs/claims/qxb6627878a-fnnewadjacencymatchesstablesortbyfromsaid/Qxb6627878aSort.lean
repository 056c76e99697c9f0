/-
  The contract of sortedByFrom (function 11): a bottom-up merge sort.
-/
import Derived.Test.Qxb6627878aLeaf
import Derived.Test.Qxb6627878aMerge
namespace Go.Proofs.Qxb6627878a.sort
open Go.RowKit Go.Proofs.Qxb6627878a.plain Go.Proofs.Qxb6627878a.leaf Go.Proofs.Qxb6627878a.mrg
set_option linter.unusedVariables false

theorem drewN_below {B : Nat} {a w : World} (h : Below B a w) (q : Nat) : Below B a (w.drewN q) := ⟨h.os, h.tape, h.output, h.size, h.block⟩
theorem erow_other {w : World} {b : Nat} {t : TypeId} {m : Nat} {f : Nat → Int × Int} (h : ERow w b t m f) {a : Addr} (ha : b ≠ a.block) (v : Value) : ERow (w.setCell a v) b t m f := World.rowIs.setOther h ha v

set_option maxHeartbeats 4000000 in
set_option maxRecDepth 100000 in
/-- THE CONTRACT OF sortedByFrom. -/
theorem sort_any (a : Option Addr) (c : Nat) (es : List E) (w : World) (hl : es.length ≤ 65536) (hE : Edges w a es) :
    Calls Try.prog 11 #[.slice a es.length c] w fun e w' => ∃ g F, e = .returned (.slice (some ⟨g, 0, none⟩) es.length es.length) ∧ ERow w' g 33 es.length F ∧ St (seg F 0 es.length) es ∧ Below w.heap.size w w' := by
  obtain ⟨i0, hi, hz0, hz1, hz2⟩ := info_parts Try.info33
  go_enter Try.func11, Try.ntmps11
  go_wp2_with (at_make; refine wpList_make_full _ rfl _ _ 22 rfl w.heap.size 33 i0 (.agg #[.int .i32 0, .int .i32 0]) 2 Try.underlying22 hi hz0 hz1 _ _ _ _ es.length rfl rfl rfl rfl (by rw [hz2]; omega) (by unfold maxLen; omega) (Nat.le_refl _) ?_; intro w2 hown2 hgrow2)
  have hr2 := erow_made hown2
  have hb2 := (Below.refl w.heap.size w).grown hgrow2 (Nat.le_refl _) (fun k h => by cases h)
  clear hown2 hgrow2
  go_loopg [5] es.length (fun g y wr => ∃ j : Nat, j ≤ es.length ∧ g = es.length - j ∧ y = .int .i64 j ∧ ERow wr w.heap.size 33 es.length (fun i => if i < j then es.getD i (0, 0) else (0, 0)) ∧ Below w.heap.size w wr)
  case atStart => exact ⟨0, Nat.zero_le _, rfl, rfl, hr2.congr (fun i _ => by rw [if_neg (by omega)]), hb2⟩
  case round =>
    clear hr2 hb2
    obtain ⟨j, hj, rfl, rfl, hr, hbl⟩ := hrel
    by_cases hlt : j < es.length
    · obtain ⟨b, off, rfl, hb, hc⟩ := hE (by omega)
      have cf : wr.cell? ⟨b, off + j * 2, none⟩ = some (.int .i32 (es.getD j (0, 0)).1) := (hbl.cell (p := ⟨b, off + j * 2, none⟩) hb).trans (hc j hlt).1
      have ct : wr.cell? ⟨b, off + j * 2 + 1, none⟩ = some (.int .i32 (es.getD j (0, 0)).2) := (hbl.cell (p := ⟨b, off + j * 2 + 1, none⟩) hb).trans (hc j hlt).2
      have d0 := hr.c0 hlt
      have d1 := hr.c1 hlt
      have z0 := hr.fz (j * 2)
      have z1 := hr.fz (j * 2 + 1)
      simp only [Nat.lt_irrefl, if_false] at d0 d1
      have hnx := hr.set j (es.getD j (0, 0)).1 (es.getD j (0, 0)).2
      have hlz : (j : Int) < (es.length : Int) := by omega
      clear hc
      have HP : Hid ((es.getD j (0, 0)) = ((es.getD j (0, 0)).1, (es.getD j (0, 0)).2)) := rfl
      generalize (es.getD j (0, 0)).1 = f at *
      generalize (es.getD j (0, 0)).2 = t at *
      have hnx' : ERow ((wr.setCell ⟨w.heap.size, j * 2, none⟩ (.int .i32 f)).setCell ⟨w.heap.size, j * 2 + 1, none⟩ (.int .i32 t)) w.heap.size 33 es.length (fun i => if i < j + 1 then es.getD i (0, 0) else (0, 0)) := by
        refine hnx.congr fun i hi => ?_
        by_cases e : i = j
        · subst e; rw [if_pos rfl, if_pos (by omega), HP.out]
        · rw [if_neg e]
          by_cases e2 : i < j
          · rw [if_pos e2, if_pos (by omega)]
          · rw [if_neg e2, if_neg (by omega)]
      have hbx : Below w.heap.size w ((wr.setCell ⟨w.heap.size, j * 2, none⟩ (.int .i32 f)).setCell ⟨w.heap.size, j * 2 + 1, none⟩ (.int .i32 t)) := (hbl.setCell (Nat.le_refl _) _).setCell (Nat.le_refl _) _
      clear hnx
      go_wp2
      go_roundg (es.length - (j + 1))
      case measure => omega
      case rel => exact ⟨j + 1, by omega, rfl, by go_num, hnx', hbx⟩
    · have jb : decide (j < es.length) = false := decide_eq_false hlt
      have hr3 : ERow wr w.heap.size 33 es.length (fun i => es.getD i (0, 0)) := hr.congr fun i hi => by rw [if_pos (by omega)]
      clear hr
      have hsz := hbl.size
      have hl1 := hr3.lt
      obtain ⟨g2, hg2⟩ : ∃ g2, Hid (g2 = wr.heap.size) := ⟨_, rfl⟩
      go_wp2_with (at_make; refine wpList_make_full _ rfl _ _ 22 rfl w.heap.size 33 i0 (.agg #[.int .i32 0, .int .i32 0]) 2 Try.underlying22 hi hz0 hz1 _ _ _ _ es.length rfl rfl (by omega) (by omega) (by rw [hz2]; omega) (by unfold maxLen; omega) (by omega) ?_; rw [← hg2.out]; intro w3 hown3 hgrow3)
      have hD := erow_made hown3
      have hS := hr3.of_block (hgrow3.block w.heap.size (by omega) (by simp))
      have hb3 := hbl.grown hgrow3 hbl.size (fun k h => by cases h)
      have hgg : w.heap.size < g2 := by rw [hg2.out]; omega
      clear hown3 hgrow3 hr3 hbl hg2 hl1 hsz jb hlt hj
      obtain ⟨m, hm⟩ : ∃ m, Hid (m = es.length) := ⟨_, rfl⟩
      rw [← hm.out] at hl hD hS ⊢
      go_loopg [7, 4, 6] (m - 1) (fun g x y z wr => ∃ (wd p q : Nat) (F D : Nat → E), g = m - wd ∧ 1 ≤ wd ∧ wd ≤ 131072 ∧ x = .int .i64 wd ∧ y = .slice (some ⟨p, 0, none⟩) m m ∧ z = .slice (some ⟨q, 0, none⟩) m m ∧ p ≠ q ∧ w.heap.size ≤ p ∧ w.heap.size ≤ q ∧ ERow wr p 33 m F ∧ ERow wr q 33 m D ∧ Hid (Blocks m wd F (fun i => es.getD i (0, 0)) m) ∧ Below w.heap.size w wr)
      case atStart => exact ⟨1, w.heap.size, g2, _, _, rfl, Nat.le_refl _, by omega, rfl, rfl, rfl, by omega, Nat.le_refl _, by omega, hS, hD, blocks_one _ _ _, hb3⟩
      case round =>
        clear hD hS hb3
        obtain ⟨wd, p, q, F, D, rfl, h1, h2, rfl, rfl, rfl, hpq, hp, hq, hF, hD, hB, hbl⟩ := hrel
        by_cases hlt : wd < m
        · go_wp2
          go_loopg [8] m (fun g x wr => ∃ (lo : Nat) (D : Nat → E), g = m - lo ∧ lo ≤ 262144 ∧ x = .int .i64 lo ∧ ERow wr p 33 m F ∧ ERow wr q 33 m D ∧ Hid (2 * wd ∣ lo) ∧ Hid (Blocks m (2 * wd) D (fun i => es.getD i (0, 0)) lo) ∧ Below w.heap.size w wr)
          case atStart => exact ⟨0, D, rfl, by omega, rfl, hF, hD, Nat.dvd_zero _, fun a _ _ h => absurd h (Nat.not_lt_zero _), hbl⟩
          case round =>
            clear hD hF hbl
            obtain ⟨lo, D, rfl, hlo, rfl, hF, hD, hdv, hBD, hbl⟩ := hrel
            by_cases hlt2 : lo < m
            · obtain ⟨mid, hmid⟩ : ∃ mid, Hid (mid = min (lo + wd) m) := ⟨_, rfl⟩
              obtain ⟨hi', hhi⟩ : ∃ hi', Hid (hi' = min (lo + 2 * wd) m) := ⟨_, rfl⟩
              have q1 : lo ≤ mid := by rw [hmid.out]; omega
              have q2 : mid ≤ hi' := by rw [hmid.out, hhi.out]; omega
              have q3 : hi' ≤ m := by rw [hhi.out]; omega
              go_wp2_with fail
              refine (minInt_any _ _ (mid : Int) _ (by rw [hmid.out]; split <;> omega)).mono ?_
              rintro _ wr ⟨rfl, rfl⟩
              go_wp2_with fail
              refine (minInt_any _ _ (hi' : Int) _ (by rw [hhi.out]; split <;> omega)).mono ?_
              rintro _ wr ⟨rfl, rfl⟩
              go_wp2
              obtain ⟨D0, hD0⟩ : ∃ D0, D0 = D := ⟨_, rfl⟩
              go_loopg [11, 12, 13] (hi' - lo) (fun g x y z wr => ∃ (i j k : Nat) (D : Nat → E), g = hi' - k ∧ lo ≤ i ∧ i ≤ mid ∧ mid ≤ j ∧ j ≤ hi' ∧ k + mid = i + j ∧ x = .int .i64 i ∧ y = .int .i64 j ∧ z = .int .i64 k ∧ ERow wr p 33 m F ∧ ERow wr q 33 m D ∧ Hid (seg D lo k ++ mrg (seg F i mid) (seg F j hi') = mrg (seg F lo mid) (seg F mid hi')) ∧ Hid (∀ x, x < lo → D x = D0 x) ∧ Below w.heap.size w wr)
              case atStart => exact ⟨lo, mid, lo, D, rfl, Nat.le_refl _, q1, Nat.le_refl _, q2, by omega, rfl, rfl, rfl, hF, hD, by rw [seg_nil D (Nat.le_refl lo)]; rfl, fun x _ => by rw [hD0], hbl⟩
              case round =>
                rw [← hD0] at hBD
                clear hD hF hbl hD0 D
                obtain ⟨i, j, k, D, rfl, r1, r2, r3, r4, r5, rfl, rfl, rfl, hF, hD, hinv, hsame, hbl⟩ := hrel
                by_cases hk : k < hi'
                · by_cases hc1 : i < mid
                  · by_cases hc2 : hi' ≤ j
                    · have g1 : decide (i < mid) = true := decide_eq_true hc1
                      have g2' : decide (hi' ≤ j) = true := decide_eq_true hc2
                      have hN := round_left hinv.out (by omega) hc1 (Or.inl hc2)
                      have c0 := hF.c0 (i := i) (by omega)
                      have c1 := hF.c1 (i := i) (by omega)
                      have d0 := hD.c0 (i := k) (by omega)
                      have d1 := hD.c1 (i := k) (by omega)
                      have f0 := hD.fz (k * 2)
                      have f1 := hD.fz (k * 2 + 1)
                      have HN : Hid (∀ r : Nat, ERow (((wr.setCell ⟨q, k * 2, none⟩ (.int .i32 (F i).1)).setCell ⟨q, k * 2 + 1, none⟩ (.int .i32 (F i).2)).drewN r) q 33 m (fun x => if x = k then F i else D x) ∧ ERow (((wr.setCell ⟨q, k * 2, none⟩ (.int .i32 (F i).1)).setCell ⟨q, k * 2 + 1, none⟩ (.int .i32 (F i).2)).drewN r) p 33 m F ∧ Below w.heap.size w (((wr.setCell ⟨q, k * 2, none⟩ (.int .i32 (F i).1)).setCell ⟨q, k * 2 + 1, none⟩ (.int .i32 (F i).2)).drewN r)) := fun r => ⟨(hD.set k (F i).1 (F i).2).of_block rfl, (erow_other (erow_other hF (by simpa using hpq) _) (by simpa using hpq) _).of_block rfl, drewN_below ((hbl.setCell (by simpa using hq) _).setCell (by simpa using hq) _) r⟩
                      have hN2 : Hid (seg (fun x => if x = k then F i else D x) lo (k + 1) ++ mrg (seg F (i + 1) mid) (seg F j hi') = mrg (seg F lo mid) (seg F mid hi')) := hN
                      have hS2 : Hid (∀ x, x < lo → (if x = k then F i else D x) = D0 x) := fun x hx => by rw [if_neg (by omega)]; exact hsame.out x hx
                      obtain ⟨X, hX⟩ : ∃ X : Nat → E, Hid (X = fun x => if x = k then F i else D x) := ⟨_, rfl⟩
                      have HN' := HN.out
                      clear HN hN
                      rw [← hX.out] at HN' hN2
                      have hS3 : Hid (∀ x, x < lo → X x = D0 x) := fun x hx => by rw [hX.out]; exact hS2.out x hx
                      have HN : Hid _ := HN'
                      clear HN' hX hS2 hinv hsame hF hD hbl
                      generalize (F i).1 = y1 at *
                      generalize (F i).2 = y2 at *
                      go_wp2
                      go_quiet (fail)
                      go_wp2
                      go_roundg (hi' - (k + 1))
                      case measure => omega
                      case rel => exact ⟨i + 1, j, k + 1, X, rfl, by omega, by omega, by omega, by omega, by omega, by go_num, rfl, by go_num, (HN.out _).2.1, (HN.out _).1, hN2, hS3, (HN.out _).2.2⟩
                    · have g1 : decide (i < mid) = true := decide_eq_true hc1
                      have g2' : decide (hi' ≤ j) = false := decide_eq_false hc2
                      have z1 : (i : Int) < (m : Int) := by omega
                      have z2 : (j : Int) < (m : Int) := by omega
                      by_cases hc3 : (F i).1 ≤ (F j).1
                      · have g3 : decide ((F i).1 ≤ (F j).1) = true := decide_eq_true hc3
                        have hN := round_left hinv.out (by omega) hc1 (Or.inr hc3)
                        have c0 := hF.c0 (i := i) (by omega)
                        have c1 := hF.c1 (i := i) (by omega)
                        have e0 := hF.c0 (i := j) (by omega)
                        have d0 := hD.c0 (i := k) (by omega)
                        have d1 := hD.c1 (i := k) (by omega)
                        have f0 := hD.fz (k * 2)
                        have f1 := hD.fz (k * 2 + 1)
                        have HN : Hid (∀ r : Nat, ERow (((wr.setCell ⟨q, k * 2, none⟩ (.int .i32 (F i).1)).setCell ⟨q, k * 2 + 1, none⟩ (.int .i32 (F i).2)).drewN r) q 33 m (fun x => if x = k then F i else D x) ∧ ERow (((wr.setCell ⟨q, k * 2, none⟩ (.int .i32 (F i).1)).setCell ⟨q, k * 2 + 1, none⟩ (.int .i32 (F i).2)).drewN r) p 33 m F ∧ Below w.heap.size w (((wr.setCell ⟨q, k * 2, none⟩ (.int .i32 (F i).1)).setCell ⟨q, k * 2 + 1, none⟩ (.int .i32 (F i).2)).drewN r)) := fun r => ⟨(hD.set k (F i).1 (F i).2).of_block rfl, (erow_other (erow_other hF (by simpa using hpq) _) (by simpa using hpq) _).of_block rfl, drewN_below ((hbl.setCell (by simpa using hq) _).setCell (by simpa using hq) _) r⟩
                        have hN2 : Hid (seg (fun x => if x = k then F i else D x) lo (k + 1) ++ mrg (seg F (i + 1) mid) (seg F j hi') = mrg (seg F lo mid) (seg F mid hi')) := hN
                        have hS2 : Hid (∀ x, x < lo → (if x = k then F i else D x) = D0 x) := fun x hx => by rw [if_neg (by omega)]; exact hsame.out x hx
                        obtain ⟨X, hX⟩ : ∃ X : Nat → E, Hid (X = fun x => if x = k then F i else D x) := ⟨_, rfl⟩
                        have HN' := HN.out
                        clear HN hN
                        rw [← hX.out] at HN' hN2
                        have hS3 : Hid (∀ x, x < lo → X x = D0 x) := fun x hx => by rw [hX.out]; exact hS2.out x hx
                        have HN : Hid _ := HN'
                        clear HN' hX hS2 hinv hsame hF hD hbl
                        generalize (F i).1 = y1 at *
                        generalize (F i).2 = y2 at *
                        generalize (F j).1 = y3 at *
                        go_wp2
                        go_quiet (fail)
                        go_wp2
                        go_roundg (hi' - (k + 1))
                        case measure => omega
                        case rel => exact ⟨i + 1, j, k + 1, X, rfl, by omega, by omega, by omega, by omega, by omega, by go_num, rfl, by go_num, (HN.out _).2.1, (HN.out _).1, hN2, hS3, (HN.out _).2.2⟩
                      · have g3 : decide ((F i).1 ≤ (F j).1) = false := decide_eq_false hc3
                        have hN := round_right hinv.out (by omega) (by omega) (Or.inr (by omega))
                        have c0 := hF.c0 (i := j) (by omega)
                        have c1 := hF.c1 (i := j) (by omega)
                        have e0 := hF.c0 (i := i) (by omega)
                        have d0 := hD.c0 (i := k) (by omega)
                        have d1 := hD.c1 (i := k) (by omega)
                        have f0 := hD.fz (k * 2)
                        have f1 := hD.fz (k * 2 + 1)
                        have HN : Hid (∀ r : Nat, ERow (((wr.setCell ⟨q, k * 2, none⟩ (.int .i32 (F j).1)).setCell ⟨q, k * 2 + 1, none⟩ (.int .i32 (F j).2)).drewN r) q 33 m (fun x => if x = k then F j else D x) ∧ ERow (((wr.setCell ⟨q, k * 2, none⟩ (.int .i32 (F j).1)).setCell ⟨q, k * 2 + 1, none⟩ (.int .i32 (F j).2)).drewN r) p 33 m F ∧ Below w.heap.size w (((wr.setCell ⟨q, k * 2, none⟩ (.int .i32 (F j).1)).setCell ⟨q, k * 2 + 1, none⟩ (.int .i32 (F j).2)).drewN r)) := fun r => ⟨(hD.set k (F j).1 (F j).2).of_block rfl, (erow_other (erow_other hF (by simpa using hpq) _) (by simpa using hpq) _).of_block rfl, drewN_below ((hbl.setCell (by simpa using hq) _).setCell (by simpa using hq) _) r⟩
                        have hN2 : Hid (seg (fun x => if x = k then F j else D x) lo (k + 1) ++ mrg (seg F i mid) (seg F (j + 1) hi') = mrg (seg F lo mid) (seg F mid hi')) := hN
                        have hS2 : Hid (∀ x, x < lo → (if x = k then F j else D x) = D0 x) := fun x hx => by rw [if_neg (by omega)]; exact hsame.out x hx
                        obtain ⟨X, hX⟩ : ∃ X : Nat → E, Hid (X = fun x => if x = k then F j else D x) := ⟨_, rfl⟩
                        have HN' := HN.out
                        clear HN hN
                        rw [← hX.out] at HN' hN2
                        have hS3 : Hid (∀ x, x < lo → X x = D0 x) := fun x hx => by rw [hX.out]; exact hS2.out x hx
                        have HN : Hid _ := HN'
                        clear HN' hX hS2 hinv hsame hF hD hbl
                        generalize (F j).1 = y1 at *
                        generalize (F j).2 = y2 at *
                        generalize (F i).1 = y3 at *
                        go_wp2
                        go_quiet (fail)
                        go_wp2
                        go_roundg (hi' - (k + 1))
                        case measure => omega
                        case rel => exact ⟨i, j + 1, k + 1, X, rfl, by omega, by omega, by omega, by omega, by omega, rfl, by go_num, by go_num, (HN.out _).2.1, (HN.out _).1, hN2, hS3, (HN.out _).2.2⟩
                  · have g1 : decide (i < mid) = false := decide_eq_false hc1
                    have hN := round_right hinv.out (by omega) (by omega) (Or.inl (by omega))
                    have c0 := hF.c0 (i := j) (by omega)
                    have c1 := hF.c1 (i := j) (by omega)
                    have d0 := hD.c0 (i := k) (by omega)
                    have d1 := hD.c1 (i := k) (by omega)
                    have f0 := hD.fz (k * 2)
                    have f1 := hD.fz (k * 2 + 1)
                    have HN : Hid (∀ r : Nat, ERow (((wr.setCell ⟨q, k * 2, none⟩ (.int .i32 (F j).1)).setCell ⟨q, k * 2 + 1, none⟩ (.int .i32 (F j).2)).drewN r) q 33 m (fun x => if x = k then F j else D x) ∧ ERow (((wr.setCell ⟨q, k * 2, none⟩ (.int .i32 (F j).1)).setCell ⟨q, k * 2 + 1, none⟩ (.int .i32 (F j).2)).drewN r) p 33 m F ∧ Below w.heap.size w (((wr.setCell ⟨q, k * 2, none⟩ (.int .i32 (F j).1)).setCell ⟨q, k * 2 + 1, none⟩ (.int .i32 (F j).2)).drewN r)) := fun r => ⟨(hD.set k (F j).1 (F j).2).of_block rfl, (erow_other (erow_other hF (by simpa using hpq) _) (by simpa using hpq) _).of_block rfl, drewN_below ((hbl.setCell (by simpa using hq) _).setCell (by simpa using hq) _) r⟩
                    have hN2 : Hid (seg (fun x => if x = k then F j else D x) lo (k + 1) ++ mrg (seg F i mid) (seg F (j + 1) hi') = mrg (seg F lo mid) (seg F mid hi')) := hN
                    have hS2 : Hid (∀ x, x < lo → (if x = k then F j else D x) = D0 x) := fun x hx => by rw [if_neg (by omega)]; exact hsame.out x hx
                    obtain ⟨X, hX⟩ : ∃ X : Nat → E, Hid (X = fun x => if x = k then F j else D x) := ⟨_, rfl⟩
                    have HN' := HN.out
                    clear HN hN
                    rw [← hX.out] at HN' hN2
                    have hS3 : Hid (∀ x, x < lo → X x = D0 x) := fun x hx => by rw [hX.out]; exact hS2.out x hx
                    have HN : Hid _ := HN'
                    clear HN' hX hS2 hinv hsame hF hD hbl
                    generalize (F j).1 = y1 at *
                    generalize (F j).2 = y2 at *
                    go_wp2
                    go_quiet (fail)
                    go_wp2
                    go_roundg (hi' - (k + 1))
                    case measure => omega
                    case rel => exact ⟨i, j + 1, k + 1, X, rfl, by omega, by omega, by omega, by omega, by omega, rfl, by go_num, by go_num, (HN.out _).2.1, (HN.out _).1, hN2, hS3, (HN.out _).2.2⟩
                · have kb : decide (k < hi') = false := decide_eq_false hk
                  have hnew : seg D lo hi' = mrg (seg F lo mid) (seg F mid hi') := by
                    have := hinv.out
                    rw [seg_nil F (show mid ≤ i by omega), seg_nil F (show hi' ≤ j by omega), mrg_nil, List.append_nil, show k = hi' by omega] at this
                    exact this
                  rw [hmid.out, hhi.out] at hnew
                  have hBn : Hid (Blocks m (2 * wd) D (fun i => es.getD i (0, 0)) (lo + 2 * wd)) := blocks_step h1 hB.out hdv.out hlt2 hBD.out hsame.out hnew
                  have hdn : Hid (2 * wd ∣ lo + 2 * wd) := Nat.dvd_add hdv.out (Nat.dvd_refl _)
                  clear hnew hinv hsame
                  go_wp2
                  go_roundg (m - (lo + 2 * wd))
                  case measure => omega
                  case rel => exact ⟨lo + 2 * wd, D, rfl, by omega, by go_num, hF, hD, hdn, hBn, hbl⟩
            · have lb : decide (lo < m) = false := decide_eq_false hlt2
              have hBn : Hid (Blocks m (2 * wd) D (fun i => es.getD i (0, 0)) m) := blocks_all hBD.out (by omega)
              go_wp2
              go_roundg (m - 2 * wd)
              case measure => omega
              case rel => exact ⟨2 * wd, q, p, D, F, rfl, by omega, by omega, by go_num, rfl, rfl, fun h => hpq h.symm, hq, hp, hD, hF, hBn, hbl⟩
        · have wb : decide (wd < m) = false := decide_eq_false hlt
          have fin : Hid (St (seg F 0 m) es) := by
            have := blocks_end hB.out (by omega)
            rw [hm.out, seg_full es] at this
            rw [hm.out]
            exact this
          go_wp2
          go_ret
          have hme := hm.out
          subst hme
          exact ⟨p, F, rfl, hF, fin.out, hbl⟩

end Go.Proofs.Qxb6627878a.sort
