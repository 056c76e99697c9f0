/-
  Rows.FnSpaceStopsAtFirstNonSpaceSaid proved: the frame is the given shell's; the walk is ours, over Space's contract (Qxb6627788aSpace).
-/
import Derived.Test.Qxb6627788aRows
import Derived.WalkKit
import Derived.ProofKit
import Derived.OpenShut
import Derived.ShutString
import Derived.ChangeOld
import Derived.Below
import Derived.Test.Qxb6627788aSpace
import Derived.Outline
namespace Go.Proofs.Qxb6627788a.fnSpaceStopsAtFirstNonSpace
open Go.ChangeShapes Go.WideShapes Go.ChangeAt Go.RowKit
open Go.ChangeMaps (open_string shut_string)
open Go.Proofs.Qxb6627788a.space
set_option linter.unusedVariables false

theorem own : ownKnob Try.prog.godebug = none := by kernel_rfl
theorem laidOut : laidOutB Try.prog = true := by kernel_rfl

/-- WHAT THE WALK IS TOLD OF A SLICE OF INTEGERS THAT CAME IN: it is nil; or it leads to a row of 'cap' cells, the numbers 'zs' (the first 'len' are its elements, the rest its spare room), each fitting its kind. -/
def IsRow (k : IntKind) (w : World) (a : Option Addr) (len cap : Nat) (zs : List Int) : Prop :=
  (a = none ∧ len = 0 ∧ cap = 0 ∧ zs = []) ∨
  ∃ x, a = some x ∧ len ≤ cap ∧ cap ≤ maxLen ∧ zs.length = cap ∧ (∀ i, i < zs.length → w.cell? (x.add i) = some (.int k (zs.getD i 0))) ∧ ∀ n ∈ zs, (Lit.int k n).wf = true

theorem row_of {w : World} {a : Option Addr} {len cap : Nat} {zs : List Int} (h : IsRow .u8 w a len cap zs) : Row w w.heap.size a len (fun i => zs.getD i 0) := by
  intro hl
  rcases h with ⟨_, h0, _⟩ | ⟨x, rfl, h1, _, hz, hc, _⟩
  · omega
  · obtain ⟨b, off, spot⟩ := x
    have h0 := hc 0 (by omega)
    have hs : spot = none := by simpa [Addr.add] using World.cell?_spot h0
    subst hs
    have hb : b < w.heap.size := by simpa [Addr.add] using block_lt_of_cell h0
    exact ⟨b, off, rfl, hb, fun i hi => by rw [← add_plain]; exact hc i (by omega)⟩

/-! ### STEP 1: THE WALK -/
/-- The data is too long, or At is negative: true at once. -/
theorem walk_out (a0 : Option Addr) (len0 cap0 : Nat) (a1 : Int) (a2 : Int) (w : World) (h : 1048576 < len0 ∨ a1 < 0) (hm : len0 ≤ 9223372036854775807) :
    Calls Try.prog 3 #[.slice a0 len0 cap0, .int .i64 a1, .int .i64 a2] w fun e w' => e = .returned (.bool true) ∧ Below w.heap.size w w' := by
  by_cases h1 : 1048576 < len0
  · go_enter Try.func3, Try.ntmps3
    go_wp2
    go_ret
    exact ⟨rfl, Below.refl _ _⟩
  · have h2 : a1 < 0 := by omega
    have h1' : len0 ≤ 1048576 := by omega
    go_enter Try.func3, Try.ntmps3
    go_wp2
    go_ret
    exact ⟨rfl, Below.refl _ _⟩

/-- At lies at the end or past it. -/
theorem walk_end (a0 : Option Addr) (len0 cap0 : Nat) (k : Nat) (d : Int) (w : World) (hl : len0 ≤ 1048576) (hk : k ≤ 9223372036854775807) (hkl : len0 ≤ k) :
    Calls Try.prog 3 #[.slice a0 len0 cap0, .int .i64 k, .int .i64 d] w fun e w' => e = .returned (.bool true) ∧ Below w.heap.size w w' := by
  have hR : Rd (w.alloc (.cells #[.slice a0 len0 cap0, .int .i64 k, .int .i64 d, .slice none 0 0] 27)) w.heap.size a0 len0 cap0 k d := heap_alloc_new _ _
  have hbl : Below w.heap.size w (w.alloc (.cells #[.slice a0 len0 cap0, .int .i64 k, .int .i64 d, .slice none 0 0] 27)) := (Below.refl _ _).alloc (Nat.le_refl _) _
  go_enter Try.func3, Try.ntmps3
  go_wp2_with (first | (go_at_call 6; refine (space_end w.heap.size a0 len0 cap0 k d _ hR hkl hk).mono ?_; rintro e w2 ⟨rfl, hR2, hsz2, hb2⟩; have c0 := hR2.c0; have c1 := hR2.c1; have c2 := hR2.c2) | go_in)
  go_ret
  exact ⟨by simp, hbl.trans hb2⟩

/-- At lies inside the data. -/
theorem walk_in (a0 : Option Addr) (len0 cap0 : Nat) (f : Nat → Int) (k : Nat) (d : Int) (w : World) (hl : len0 ≤ 1048576) (hkl : k < len0) (hrow : Row w w.heap.size a0 len0 f) :
    Calls Try.prog 3 #[.slice a0 len0 cap0, .int .i64 k, .int .i64 d] w fun e w' => e = .returned (.bool true) ∧ Below w.heap.size w w' := by
  obtain ⟨b, off, rfl, hbB, hc⟩ := hrow (by omega)
  have hR : Rd (w.alloc (.cells #[.slice (some ⟨b, off, none⟩) len0 cap0, .int .i64 k, .int .i64 d, .slice none 0 0] 27)) w.heap.size (some ⟨b, off, none⟩) len0 cap0 k d := heap_alloc_new _ _
  have hbl : Below w.heap.size w (w.alloc (.cells #[.slice (some ⟨b, off, none⟩) len0 cap0, .int .i64 k, .int .i64 d, .slice none 0 0] 27)) := (Below.refl _ _).alloc (Nat.le_refl _) _
  have hrow1 : Row (w.alloc (.cells #[.slice (some ⟨b, off, none⟩) len0 cap0, .int .i64 k, .int .i64 d, .slice none 0 0] 27)) w.heap.size (some ⟨b, off, none⟩) len0 f := hrow.below hbl (Nat.le_refl _)
  have HC : Hid (∀ i, i < len0 → w.cell? ⟨b, off + i, none⟩ = some (.int .u8 (f i))) := hc
  clear hc
  have g0 : decide (len0 ≤ k) = false := decide_eq_false (by omega)
  go_enter Try.func3, Try.ntmps3
  go_wp2_with (first | (go_at_call 6; refine (space_any w.heap.size _ len0 cap0 f k d _ hR hl (by omega) hrow1).mono ?_; rintro e w2 ⟨j, rfl, hst, hR2, hsz2, hb2⟩; have c0 := hR2.c0; have c1 := hR2.c1; have c2 := hR2.c2; obtain ⟨q1, q2, q3, q4⟩ := hst.2 hkl; have g1 : decide (j < k) = false := decide_eq_false (by omega); have g2 : decide (len0 < j) = false := decide_eq_false (by omega)) | go_in)
  have Q3 : Hid (∀ i, k ≤ i → i < j → isSp (f i) = true) := q3
  have Q4 : Hid (j < len0 → isSp (f j) = false) := q4
  clear q3 q4
  have hbl2 := hbl.trans hb2
  go_loopg [8] (j - k) (fun g i wr => ∃ m : Nat, k ≤ m ∧ m ≤ j ∧ g = j - m ∧ i = .int .i64 m ∧ w2 = wr)
  case atStart => exact ⟨k, Nat.le_refl _, q1, rfl, rfl, rfl⟩
  case round =>
    obtain ⟨m, hm1, hm2, rfl, rfl, rfl⟩ := hrel
    by_cases hlt : m < j
    · have cm : w2.cell? ⟨b, off + m, none⟩ = some (.int .u8 (f m)) := (hbl2.cell (p := ⟨b, off + m, none⟩) hbB).trans (HC.out m (by omega))
      have hs : Hid (isSp (f m) = true) := Q3.out m hm1 hlt
      go_wp2_with (go_at_call 7; refine (isSpace_any _ _ true hs.out).mono ?_; rintro e w3 ⟨rfl, rfl⟩)
      go_roundg (j - (m + 1))
      case rel => exact ⟨m + 1, by omega, by omega, rfl, by go_num, rfl⟩
      case measure => omega
    · have hmj : m = j := by omega
      subst hmj
      by_cases hj : m = len0
      · have kb : ((m : Int) == (len0 : Int)) = true := by simp [hj]
        clear hj
        go_wp2_with fail
        go_ret
        exact ⟨rfl, hbl2⟩
      · have kb : ((m : Int) == (len0 : Int)) = false := by simp; omega
        have cm : w2.cell? ⟨b, off + m, none⟩ = some (.int .u8 (f m)) := (hbl2.cell (p := ⟨b, off + m, none⟩) hbB).trans (HC.out m (by omega))
        have hs : Hid (isSp (f m) = false) := Q4.out (by omega)
        have hlt2 : m < len0 := by omega
        go_wp2_with (go_at_call 7; refine (isSpace_any _ _ false hs.out).mono ?_; rintro e w3 ⟨rfl, rfl⟩)
        go_ret
        exact ⟨rfl, hbl2⟩

theorem walk (a0 : Option Addr) (len0 cap0 : Nat) (z0 : List Int) (a1 : Int) (a2 : Int) (w : World) (w0 : IsRow .u8 w a0 len0 cap0 z0) (w1 : (Lit.int .i64 a1).wf = true) (w2 : (Lit.int .i64 a2).wf = true) :
    Calls Try.prog 3 #[.slice a0 len0 cap0, .int .i64 a1, .int .i64 a2] w fun e w' => e = .returned (.bool true) ∧ Below w.heap.size w w' := by
  have hm : len0 ≤ 9223372036854775807 := by
    rcases w0 with ⟨_, h0, _⟩ | ⟨_, _, h1, h2, _⟩
    · omega
    · unfold maxLen at h2; omega
  have hb := bounds_i64 w1
  by_cases h : 1048576 < len0 ∨ a1 < 0
  · exact walk_out a0 len0 cap0 a1 a2 w h hm
  · obtain ⟨k, rfl⟩ := Int.eq_ofNat_of_zero_le (show 0 ≤ a1 by omega)
    by_cases hkl : len0 ≤ k
    · exact walk_end a0 len0 cap0 k a2 w (by omega) (by omega) hkl
    · exact walk_in a0 len0 cap0 _ k a2 w (by omega) (by omega) (row_of w0)

/-! ### THE ROW's STEP: WRITTEN OUT: LEAVE IT -/
set_option maxRecDepth 100000 in
theorem lifted (os : Os) (started : os.Started) (H : Type) (enc : TypeId × Value → H) :
    ReturnsInHanded {} Try.checked os 3 .any (Rows.fnSpaceStopsAtFirstNonSpaceSpec.pre6 enc Try.prog Try.f3 Rows.fnSpaceStopsAtFirstNonSpaceRow.domain false) (Rows.fnSpaceStopsAtFirstNonSpaceSpec.post enc Try.prog Try.f3 false true false false) := by
  refine returnsInHanded_of_change (C := Try.checked) own started (by kernel_rfl) Try.func3
    (ChangeSpec.witness6 (enc := enc) (C := Try.checked) false ⟨#[], #[.slice none 0 0, .int .i64 0, .int .i64 0], []⟩ 8 (by kernel_rfl) (by kernel_rfl) (by kernel_rfl) (by kernel_rfl)) ?_
  intro W base args ds gs before hval0 hW hcnd _
  have hval : ∀ (j : Nat) t v, Try.f3.params[j]? = some t → args[j]? = some v → Value.okWide Try.prog W .any base t v := hval0
  have hW' := hW
  obtain ⟨p, q, hA0, hV, rfl, hfz, hnd⟩ := hW
  have hA : DataW.TrodAll enc Try.prog W 0 (fun _ => true) true Try.f3.params.toList args.toList ds p := hA0
  rw [Try.params3] at hA hval
  obtain ⟨v0, vs0, d0, ds0, p0, q0, hargs, rfl, rfl, h0, r0⟩ := trodAll_cons hA
  obtain ⟨v1, vs1, d1, ds1, p1, q1, rfl, rfl, rfl, h1, r1⟩ := trodAll_cons r0
  obtain ⟨v2, vs2, d2, ds2, p2, q2, rfl, rfl, rfl, h2, r2⟩ := trodAll_cons r1
  obtain ⟨rfl, rfl, rfl⟩ := trodAll_nil r2
  obtain rfl : args = #[v0, v1, v2] := by cases args; simp_all
  obtain ⟨rfl, rfl⟩ := trodVars_none hV
  obtain ⟨a0, len0, cap0, rfl⟩ := okWide_slice Try.underlying22 (hval 0 22 v0 rfl rfl)
  have k0 := h0
  have lt0 : ∀ x ∈ p0, x.block < W.heap.size := by obtain ⟨m, hm⟩ := k0; exact DataW.trod_lt m _ _ _ hm
  obtain ⟨z0, w0⟩ : ∃ zs, IsRow .u8 W a0 len0 cap0 zs := by
    obtain ⟨fuel, hf⟩ := h0
    rcases open_ints Try.underlying22 Try.underlying5 (by kernel_rfl) hf with ⟨hcs, _⟩ | ⟨x, l, c, zs, hcs, _, hl, hm, hz, _, hcell, hwz⟩
    · simp [Value.cells] at hcs
      obtain ⟨rfl, rfl, rfl⟩ := hcs
      exact ⟨[], .inl ⟨rfl, rfl, rfl, rfl⟩⟩
    · simp [Value.cells] at hcs
      obtain ⟨rfl, rfl, rfl⟩ := hcs
      exact ⟨zs, .inr ⟨_, rfl, hl, hm, by simpa using hz, hcell, hwz⟩⟩
  obtain ⟨a1, rfl, rfl, rfl, w1⟩ := open_int Try.underlying3 (hval 1 3 v1 rfl rfl) h1
  obtain ⟨a2, rfl, rfl, rfl, w2⟩ := open_int Try.underlying3 (hval 2 3 v2 rfl rfl) h2
  clear hA0 hval0
  refine (walk a0 len0 cap0 z0 a1 a2 W w0 w1 w2).mono fun e W' ⟨he, bel⟩ => ?_
  subst he
  exact ⟨_, rfl, _, _, _, [], _, [], hW', trodAll_mk1 (shut_bool Try.underlying4 _), (trodAll_cons_mk (Below.trod laidOut (by kernel_rfl) (of_decide_eq_true (by kernel_rfl)) k0 bel lt0) (trodAll_cons_mk (shut_int Try.underlying3 w1) (trodAll_cons_mk (shut_int Try.underlying3 w2) trodAll_mk0))), rfl, bel.frame _, fun h => by cases h⟩

theorem over : Rows.fnSpaceStopsAtFirstNonSpaceRow.holds Try.pinned (OpenSpec.ofChange Rows.fnSpaceStopsAtFirstNonSpaceSpec) :=
  OpenClaim.holds_of_wide 3 Try.f3 rfl rfl rfl rfl rfl rfl rfl ⟨rfl, rfl, rfl, rfl, rfl⟩ rfl rfl rfl rfl rfl (by kernel_rfl) Try.func3 (by kernel_rfl)
    (of_decide_eq_true (by kernel_rfl)) (by unfold Func.isWrapper; first | (rw [if_pos (by decide +kernel)]; kernel_rfl) | (rw [if_neg (by decide +kernel)]; exact ⟨rfl, rfl⟩))
    (fun os started H enc _ => lifted os started H enc)

/-- ████ THE STATEMENT ████ -/
theorem proved : Rows.FnSpaceStopsAtFirstNonSpaceSaid := over
#print axioms proved
end Go.Proofs.Qxb6627788a.fnSpaceStopsAtFirstNonSpace
