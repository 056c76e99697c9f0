/-
  The contract of (*fastjson.Reader).Space and of zzb1IsSpace, walked once for both laws of the seat.
-/
import Derived.Test.Qxb6627788aRows
import Derived.WalkKit
import Derived.ProofKit
import Derived.OpenShut
import Derived.ShutString
import Derived.ChangeOld
import Derived.Below
import Derived.OneCell
import Derived.RegionTactic
import Derived.Deep.QuietTactic
import Derived.BigQuiet
import Derived.Outline
import Derived.WalkSmall
import Derived.Deep.LoopGhost
namespace Go.Proofs.Qxb6627788a.space
open Go.ChangeShapes Go.WideShapes Go.ChangeAt Go.RowKit
set_option linter.unusedVariables false

/-- JSON's four white-space bytes. -/
def isSp (c : Int) : Bool := c == 32 || c == 9 || c == 10 || c == 13

/-- Where Space comes to rest from 'k': f tells the bytes. -/
def Stops (f : Nat → Int) (len k j : Nat) : Prop :=
  (len ≤ k → j = k) ∧ (k < len → k ≤ j ∧ j ≤ len ∧ (∀ i, k ≤ i → i < j → isSp (f i) = true) ∧ (j < len → isSp (f j) = false))

theorem isSp_cases {c : Int} (h : isSp c = true) : c = 32 ∨ c = 9 ∨ c = 10 ∨ c = 13 := by
  simp [isSp] at h
  omega
theorem isSp_no {c : Int} (h : isSp c = false) : c ≠ 32 ∧ c ≠ 9 ∧ c ≠ 10 ∧ c ≠ 13 := by
  simp [isSp] at h
  omega

theorem isSpace_any (c : Int) (w : World) (b : Bool) (hb : isSp c = b) :
    Calls Try.prog 7 #[.int .u8 c] w fun e w' => e = .returned (.bool b) ∧ w' = w := by
  subst hb
  by_cases h1 : c = 32
  · subst h1
    go_enter Try.func7, Try.ntmps7
    go_wp2
    go_ret
    exact ⟨rfl, rfl⟩
  by_cases h2 : c = 9
  · subst h2
    go_enter Try.func7, Try.ntmps7
    go_wp2
    go_ret
    exact ⟨rfl, rfl⟩
  by_cases h3 : c = 10
  · subst h3
    go_enter Try.func7, Try.ntmps7
    go_wp2
    go_ret
    exact ⟨rfl, rfl⟩
  by_cases h4 : c = 13
  · subst h4
    go_enter Try.func7, Try.ntmps7
    go_wp2
    go_ret
    exact ⟨rfl, rfl⟩
  have e : isSp c = false := by simp [isSp, h1, h2, h3, h4]
  rw [e]
  clear e
  have k1 : (c == 32) = false := by simp [h1]
  have k2 : (c == 9) = false := by simp [h2]
  have k3 : (c == 10) = false := by simp [h3]
  have k4 : (c == 13) = false := by simp [h4]
  go_enter Try.func7, Try.ntmps7
  go_wp2
  go_ret
  exact ⟨rfl, rfl⟩

/-- The reader's block: Data, At, Depth, strings. -/
def Rd (w : World) (B : Nat) (a : Option Addr) (len cap : Nat) (k : Nat) (d : Int) : Prop :=
  w.heap[B]? = some (.cells #[.slice a len cap, .int .i64 k, .int .i64 d, .slice none 0 0] 27 (0, 0))

theorem Rd.c0 {w : World} {B : Nat} {a : Option Addr} {len cap k : Nat} {d : Int} (h : Rd w B a len cap k d) : w.cell? ⟨B, 0, none⟩ = some (.slice a len cap) := by unfold Rd at h; simp [World.cell?, h]
theorem Rd.c1 {w : World} {B : Nat} {a : Option Addr} {len cap k : Nat} {d : Int} (h : Rd w B a len cap k d) : w.cell? ⟨B, 1, none⟩ = some (.int .i64 k) := by unfold Rd at h; simp [World.cell?, h]
theorem Rd.c2 {w : World} {B : Nat} {a : Option Addr} {len cap k : Nat} {d : Int} (h : Rd w B a len cap k d) : w.cell? ⟨B, 2, none⟩ = some (.int .i64 d) := by unfold Rd at h; simp [World.cell?, h]
theorem Rd.f1 {w : World} {B : Nat} {a : Option Addr} {len cap k : Nat} {d : Int} (h : Rd w B a len cap k d) : w.frozen? ⟨B, 1, none⟩ = false := by unfold Rd at h; simp [World.frozen?, h]
theorem Rd.set {w : World} {B : Nat} {a : Option Addr} {len cap k : Nat} {d : Int} (h : Rd w B a len cap k d) (k' : Nat) : Rd (w.setCell ⟨B, 1, none⟩ (.int .i64 k')) B a len cap k' d := by
  unfold Rd at h ⊢
  have hlt := lt_of_block h
  have h' : w.heap[B] = .cells #[.slice a len cap, .int .i64 k, .int .i64 d, .slice none 0 0] 27 (0, 0) := by simpa [Array.getElem?_eq_getElem hlt] using h
  show (w.heap.modify B _)[B]? = _
  rw [Array.getElem?_eq_getElem (by simpa using hlt), Array.getElem_modify_self, h']
  rfl
theorem Rd.step {w : World} {B : Nat} {a : Option Addr} {len cap k : Nat} {d : Int} (h : Rd w B a len cap k d) : Rd (w.setCell ⟨B, 1, none⟩ (.int .i64 ((k : Int) + 1))) B a len cap (k + 1) d := h.set (k + 1)
theorem Rd.drewN {w : World} {B : Nat} {a : Option Addr} {len cap k : Nat} {d : Int} (h : Rd w B a len cap k d) (n : Nat) : Rd (w.drewN n) B a len cap k d := by
  unfold Rd at h ⊢
  simpa using h

/-- At or past the end nothing moves. -/
theorem space_end (B : Nat) (a : Option Addr) (len cap : Nat) (k : Nat) (d : Int) (w : World) (hR : Rd w B a len cap k d) (hk : len ≤ k) (hk2 : k ≤ 9223372036854775807) :
    Calls Try.prog 6 #[.pointer (some ⟨B, 0, none⟩)] w fun e w' => e = .returned (.tuple #[]) ∧ Rd w' B a len cap k d ∧ w'.heap.size = w.heap.size ∧ Below B w w' := by
  have c0 := hR.c0
  have c1 := hR.c1
  have hd : decide (k < len) = false := decide_eq_false (by omega)
  go_enter Try.func6, Try.ntmps6
  go_wp2
  go_quiet (fail)
  go_wp2
  refine wp_loop_rounds 1 ?_
  rw [rounds_succ]
  go_wp2
  go_quiet (fail)
  go_wp2
  go_end0
  exact ⟨rfl, hR, rfl, below_drewN (below_drewN (Below.refl _ _) _) _⟩

/-- Inside the data: a byte above the blank stops it at once; else it goes over white space. -/
theorem space_in (B : Nat) (b off len cap : Nat) (f : Nat → Int) (k : Nat) (d : Int) (w : World) (hR : Rd w B (some ⟨b, off, none⟩) len cap k d) (hk : k < len) (hl : len ≤ 1048576) (hbB : b < B)
    (hc : ∀ i, i < len → w.cell? ⟨b, off + i, none⟩ = some (.int .u8 (f i))) :
    Calls Try.prog 6 #[.pointer (some ⟨B, 0, none⟩)] w fun e w' => ∃ j, e = .returned (.tuple #[]) ∧ Stops f len k j ∧ Rd w' B (some ⟨b, off, none⟩) len cap j d ∧ w'.heap.size = w.heap.size ∧ Below B w w' := by
  have c0 := hR.c0
  have c1 := hR.c1
  have ck := hc k hk
  have hd : decide (k < len) = true := decide_eq_true (by omega)
  by_cases hgt : 32 < f k
  · go_enter Try.func6, Try.ntmps6
    go_wp2
    go_quiet (fail)
    go_wp2
    (try simp only [Exit.inBlock, Exit.then]); refine bodyPost_ret (results_none rfl _ _ _) rfl ?_
    refine ⟨k, rfl, ⟨fun h => by omega, fun _ => ⟨by omega, by omega, fun i h1 h2 => by omega, fun _ => ?_⟩⟩, hR, rfl, below_drewN (Below.refl _ _) _⟩
    simp [isSp]; omega
  · have hgt' : f k ≤ 32 := by omega
    go_enter Try.func6, Try.ntmps6
    go_wp2
    go_quiet (fail)
    go_wp2
    go_loopg [] (len - k) (fun g wr => ∃ m, k ≤ m ∧ m ≤ len ∧ g = len - m ∧ (∀ i, k ≤ i → i < m → isSp (f i) = true) ∧ Rd wr B (some ⟨b, off, none⟩) len cap m d ∧ wr.heap.size = w.heap.size ∧ Below B w wr)
    case atStart => exact ⟨k, by omega, by omega, rfl, fun i h1 h2 => by omega, hR, rfl, below_drewN (Below.refl _ _) _⟩
    case round =>
      obtain ⟨m, hm1, hm2, rfl, hsp, hRm, hsz, hbl⟩ := hrel
      clear c0 c1 ck hd hgt hgt' hR
      have c0 := hRm.c0
      have c1 := hRm.c1
      have f1 := hRm.f1
      by_cases hlt : m < len
      · have ck : wr.cell? ⟨b, off + m, none⟩ = some (.int .u8 (f m)) := (hbl.cell (p := ⟨b, off + m, none⟩) hbB).trans (hc m hlt)
        have hd : decide (m < len) = true := decide_eq_true hlt
        cases hs : isSp (f m) with
        | true =>
          have hcase := isSp_cases hs
          have hsp' : Hid (∀ i, k ≤ i → i < m + 1 → isSp (f i) = true) := by
            intro i h1 h2
            by_cases e : i = m
            · rw [e]; exact hs
            · exact hsp i h1 (by omega)
          clear hs hsp hc
          rcases hcase with h | h | h | h
          all_goals
            go_wp2
            go_quiet (fail)
            go_wp2
            go_quiet (fail)
            go_wp2
            go_roundg (len - (m + 1))
            case measure => omega
            case rel =>
              refine ⟨m + 1, by omega, by omega, rfl, hsp'.out, ?_, ?_, ?_⟩
              · exact (hRm.drewN _).step
              · simpa [World.setCell] using hsz
              · exact (below_drewN hbl _).setCell (Nat.le_refl _) _
        | false =>
          obtain ⟨n1, n2, n3, n4⟩ := isSp_no hs
          have fin : Hid (Stops f len k m) := ⟨fun h => by omega, fun _ => ⟨hm1, hm2, hsp, fun _ => hs⟩⟩
          have k1 : (f m == 32) = false := by simp [n1]
          have k2 : (f m == 9) = false := by simp [n2]
          have k3 : (f m == 10) = false := by simp [n3]
          have k4 : (f m == 13) = false := by simp [n4]
          clear hs hsp hc n1 n2 n3 n4
          go_wp2
          go_quiet (fail)
          go_wp2
          go_quiet (fail)
          go_wp2
          (try simp only [Exit.inBlock, Exit.then]); refine bodyPost_ret (results_none rfl _ _ _) rfl ?_
          exact ⟨m, rfl, fin.out, hRm, hsz, below_drewN hbl _⟩
      · have hd : decide (m < len) = false := decide_eq_false hlt
        have hml : m = len := by omega
        have fin : Hid (Stops f len k m) := ⟨fun h => by omega, fun _ => ⟨hm1, hm2, hsp, fun h => absurd h hlt⟩⟩
        clear hsp hc hml
        go_wp2
        go_quiet (fail)
        go_wp2
        go_end0
        exact ⟨m, rfl, fin.out, hRm, hsz, below_drewN hbl _⟩

/-- WHAT THE WALK IS TOLD OF A SLICE OF BYTES: its cells, where there are any, lie below block B and hold f. -/
def Row (w : World) (B : Nat) (a : Option Addr) (len : Nat) (f : Nat → Int) : Prop :=
  0 < len → ∃ b off, a = some ⟨b, off, none⟩ ∧ b < B ∧ ∀ i, i < len → w.cell? ⟨b, off + i, none⟩ = some (.int .u8 (f i))

theorem Row.below {w w' : World} {B B' : Nat} {a : Option Addr} {len : Nat} {f : Nat → Int} (h : Row w B a len f) (hb : Below B w w') (hB : B ≤ B') : Row w' B' a len f := by
  intro hl
  obtain ⟨b, off, ha, hlt, hc⟩ := h hl
  exact ⟨b, off, ha, Nat.lt_of_lt_of_le hlt hB, fun i hi => (hb.cell (p := ⟨b, off + i, none⟩) hlt).trans (hc i hi)⟩

/-- THE CONTRACT OF Space: whatever the data, At not negative. -/
theorem space_any (B : Nat) (a : Option Addr) (len cap : Nat) (f : Nat → Int) (k : Nat) (d : Int) (w : World) (hR : Rd w B a len cap k d) (hl : len ≤ 1048576) (hk2 : k ≤ 9223372036854775807) (hrow : Row w B a len f) :
    Calls Try.prog 6 #[.pointer (some ⟨B, 0, none⟩)] w fun e w' => ∃ j, e = .returned (.tuple #[]) ∧ Stops f len k j ∧ Rd w' B a len cap j d ∧ w'.heap.size = w.heap.size ∧ Below B w w' := by
  by_cases hk : k < len
  · obtain ⟨b, off, rfl, hlt, hc⟩ := hrow (by omega)
    exact space_in B b off len cap f k d w hR hk hl hlt hc
  · refine (space_end B a len cap k d w hR (by omega) hk2).mono fun e w' ⟨he, h1, h2, h3⟩ => ?_
    exact ⟨k, he, ⟨fun _ => rfl, fun h => absurd h hk⟩, h1, h2, h3⟩

end Go.Proofs.Qxb6627788a.space
