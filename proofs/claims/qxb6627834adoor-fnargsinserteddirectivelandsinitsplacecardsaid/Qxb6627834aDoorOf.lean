/-
  The contracts of ZZArgsOf (function 6) and ZZArgsNil (8).
-/
import Derived.Test.Qxb6627834aDoorArgs
namespace Go.Proofs.Qxb6627834aDoor.argsof
open Go.RowKit Go.Proofs.Qxb6627834aDoor.plain Go.Proofs.Qxb6627834aDoor.fields Go.Proofs.Qxb6627834aDoor.rest Go.Proofs.Qxb6627834aDoor.grid Go.Proofs.Qxb6627834aDoor.args
set_option linter.unusedVariables false

theorem Tryd.info33 : (Tryd.prog.info? 33).map (fun i => (i.zero, i.size, i.bytes)) = some (some (.pointer none), 1, 8) := by kernel_rfl

theorem one_cell2 (w : World) (o1 : Obj) (x : Value) (t : TypeId) : ∀ (j : Nat) (u : Value), [x][j]? = some u → ((w.alloc o1).alloc (.cells #[x] t)).cell? ((⟨w.heap.size + 1, 0, none⟩ : Addr).add j) = some u := by
  intro j u hj
  have h := one_cell (w.alloc o1) x t j u hj
  have e : (w.alloc o1).heap.size = w.heap.size + 1 := by simp
  rw [e] at h
  exact h
theorem ptr_one (a : Option Addr) : ∀ u ∈ [Value.pointer a], u.oneCell' = true := by
  intro u hu; simp at hu; subst hu; rfl

/-- The comment's block. -/
def cblock (t : ByteArray) : Obj := .cells #[.int .i64 0, .string t] 36 (0, 0)
/-- The list's pointers lead to the texts. -/
def Ptrs (w : World) (base : Nat) (v : Value) (L : List ByteArray) : Prop :=
  ∃ ps : List Nat, ps.length = L.length ∧ w.ownsRow base 33 1 v L.length (ps.map fun p => .pointer (some ⟨p, 0, none⟩)) ∧ ∀ i, i < L.length → w.heap[ps.getD i 0]? = some (cblock (L.getD i ByteArray.empty))

theorem ptrs_push {w w2 : World} {base : Nat} {v v' : Value} {L : List ByteArray} {t : ByteArray} {ps : List Nat} (hpl : ps.length = L.length) (hown : w.ownsRow base 33 1 v L.length (ps.map fun p => .pointer (some ⟨p, 0, none⟩)))
    (hin : ∀ i, i < L.length → w.heap[ps.getD i 0]? = some (cblock (L.getD i ByteArray.empty)))
    (hown2 : w2.ownsRow base 33 1 v' (L.length + 1) ((ps.map fun p => .pointer (some ⟨p, 0, none⟩)) ++ [.pointer (some ⟨w.heap.size, 0, none⟩)])) {o : Obj} (hg : ((w.alloc (cblock t)).alloc o).grownBy w2 v.ownBlock) : Ptrs w2 base v' (L ++ [t]) := by
  have hne : ∀ (b : Nat) (x : ByteArray), w.heap[b]? = some (cblock x) → w2.heap[b]? = some (cblock x) := by
    intro b x hb
    have hlt := lt_of_block hb
    rw [hg.block b (by simp; omega) ?_, Below.heap_alloc _ _ _ (by simp; omega), Below.heap_alloc _ _ _ hlt, hb]
    intro e
    rcases hown.2 with ⟨rfl, _⟩ | ⟨g, cap, cur, rfl, _, hh, _⟩
    · simp [Value.ownBlock] at e
    · simp [Value.ownBlock] at e
      subst e
      rw [hb] at hh
      simp [cblock] at hh
  refine ⟨ps ++ [w.heap.size], by simp [hpl], by simpa using hown2, fun i hi => ?_⟩
  rw [List.length_append, List.length_cons, List.length_nil] at hi
  by_cases e : i < L.length
  · have e1 : (ps ++ [w.heap.size]).getD i 0 = ps.getD i 0 := by
      rw [List.getD_eq_getElem?_getD, List.getD_eq_getElem?_getD, List.getElem?_append_left (by omega)]
    have e2 : (L ++ [t]).getD i ByteArray.empty = L.getD i ByteArray.empty := by
      rw [List.getD_eq_getElem?_getD, List.getD_eq_getElem?_getD, List.getElem?_append_left e]
    rw [e1, e2]
    exact hne _ _ (hin i e)
  · have ei : i = L.length := by omega
    have e1 : (ps ++ [w.heap.size]).getD i 0 = w.heap.size := by
      rw [List.getD_eq_getElem?_getD, List.getElem?_append_right (by omega), ei, hpl]; simp
    have e2 : (L ++ [t]).getD i ByteArray.empty = t := by
      rw [List.getD_eq_getElem?_getD, List.getElem?_append_right (by omega), ei]; simp
    rw [e1, e2]
    rw [hg.block _ (by simp; omega) ?_, Below.heap_alloc _ _ _ (by simp)]
    · exact heap_alloc_new _ _
    · intro e
      rcases hown.2 with ⟨rfl, _⟩ | ⟨g, cap, cur, rfl, _, hh, _⟩
      · simp [Value.ownBlock] at e
      · simp [Value.ownBlock] at e
        have := lt_of_block hh
        omega

theorem comments_of {w : World} {base : Nat} {a : Option Addr} {c : Nat} {L : List ByteArray} (h : Ptrs w base (.slice a L.length c) L) : Comments w a L := by
  obtain ⟨ps, hpl, hown, hin⟩ := h
  intro hl
  rcases hown.2 with ⟨h', h0⟩ | ⟨g, cap, cur, h', _, hh, _⟩
  · omega
  · have hown2 := hown
    rw [h'] at hown2
    simp only [Value.slice.injEq] at h'
    refine ⟨g, 0, h'.1, lt_of_block hh, fun i hi => ⟨ps.getD i 0, ?_, lt_of_block (hin i hi), ?_⟩⟩
    · have := hown2.cellAt i (by omega)
      rw [Nat.zero_add, this, List.getElem?_map, List.getD_eq_getElem?_getD, List.getElem?_eq_getElem (by omega)]
      rfl
    · have := hin i hi
      generalize ps.getD i 0 = b at *
      generalize L.getD i ByteArray.empty = x at *
      simp [World.cell?, this, cblock]
theorem Ptrs.below {w w' : World} {base : Nat} {v : Value} {L : List ByteArray} (h : Ptrs w base v L) (hb : Below w.heap.size w w') : Ptrs w' base v L := by
  obtain ⟨ps, hpl, hown, hin⟩ := h
  exact ⟨ps, hpl, own_below hown hb, fun i hi => by rw [hb.block _ (lt_of_block (hin i hi))]; exact hin i hi⟩

set_option maxHeartbeats 4000000 in
set_option maxRecDepth 100000 in
/-- THE CONTRACT OF ZZArgsOf. -/
theorem argsOf6 (a : Option Addr) (c : Nat) (L : List ByteArray) (name : ByteArray) (w : World) (hL : L.length ≤ 1048577) (hS : Small L) (hn : name.size ≤ 1048576) (hX : Texts w a L) (hT : Tabs w) :
    Calls Tryd.prog 6 #[.slice a L.length c, .string name] w fun e w' => ∃ v, e = .returned v ∧ Grid w' w.heap.size v (argsB name L) ∧ (argsB name L = [] → v = .slice none 0 0) ∧ Below w.heap.size w w' := by
  obtain ⟨i0, hi, hz0, hz1, hz2⟩ := info_parts Tryd.info33
  go_enter Tryd.func6, Tryd.ntmps6
  go_wp2_with (at_make; refine wpList_make_own _ rfl _ _ 32 rfl w.heap.size 33 i0 (.pointer none) 1 Tryd.underlying32 hi hz0 hz1 _ _ _ L.length rfl rfl (by omega) (by rw [hz2]; omega) (by unfold maxLen; omega) (Nat.le_refl _) ?_; intro w1 hown1 hgrow1)
  have hb1 := (Below.refl w.heap.size w).grown hgrow1 (Nat.le_refl _) (fun k h => by cases h)
  go_loopg [5, 13] L.length (fun g v x wr => ∃ k : Nat, k ≤ L.length ∧ g = L.length - k ∧ x = .int .i64 k ∧ Ptrs wr w.heap.size v (L.take k) ∧ Below w.heap.size w wr)
  case atStart => exact ⟨0, Nat.zero_le _, rfl, rfl, ⟨[], rfl, hown1, fun i hi => by simp at hi⟩, hb1⟩
  case round =>
    clear hown1 hgrow1 hb1
    obtain ⟨k, hk, rfl, rfl, hps, hbl⟩ := hrel
    by_cases hlt : k < L.length
    · obtain ⟨b, off, rfl, hb, hc⟩ := hX (by omega)
      have ck : wr.cell? ⟨b, off + k, none⟩ = some (.string (L.getD k ByteArray.empty)) := (hbl.cell (p := ⟨b, off + k, none⟩) hb).trans (hc k hlt)
      have HS : Hid (L.take (k + 1) = L.take k ++ [L.getD k ByteArray.empty]) := take_snoc L k hlt
      have hal2 : (L.take k).length ≤ k := List.length_take_le _ _
      clear hc
      generalize L.getD k ByteArray.empty = t at *
      obtain ⟨ps, hpl, hown, hin⟩ := hps
      generalize L.take k = M at *
      go_wp2_with (at_builtin; refine wpList_append_own _ rfl (.tmp 17) (.tmp 21) 32 rfl w.heap.size 33 i0 (.pointer none) 1 8 Tryd.underlying32 hi hz0 hz1 hz2 rfl (by decide) _ _ _ rfl ((hown.alloc _).alloc _) ⟨_, 0, none⟩ 1 1 [.pointer (some ⟨wr.heap.size, 0, none⟩)] rfl rfl (one_cell2 _ _ _ _) (ptr_one _) (by unfold maxLen; omega) (by omega) (by have := hbl.size; simp; omega) ?_; intro v' w3 hown3 hgrow3 _)
      have hbl3 : Below w.heap.size w w3 := ((hbl.alloc hbl.size _).alloc (by have := hbl.size; simp; omega) _).grown hgrow3 (by have := hbl.size; simp; omega) (own_ge hown)
      have hp3 := ptrs_push hpl hown hin hown3 hgrow3
      clear hown3 hgrow3
      go_roundg (L.length - (k + 1))
      case measure => omega
      case rel => exact ⟨k + 1, by omega, rfl, by go_num, by rw [HS.out]; exact hp3, hbl3⟩
    · have e : L.take k = L := List.take_of_length_le (by omega)
      have kb : decide (k < L.length) = false := decide_eq_false hlt
      rw [e] at hps
      clear e
      obtain ⟨ao, c2, hv⟩ : ∃ ao c2, u5 = .slice ao L.length c2 := by
        obtain ⟨ps, _, hown, _⟩ := hps
        exact own_shape hown
      subst hv
      have hba : Below wr.heap.size wr (wr.alloc (.cells #[.slice ao L.length c2] 40)) := (Below.refl _ _).alloc (Nat.le_refl _) _
      have hco := comments_of (hps.below hba)
      have hTa : Tabs (wr.alloc (.cells #[.slice ao L.length c2] 40)) := (hT.below hbl).below hba
      have hblA := hbl.trans (hba.mono hbl.size)
      have hG : (wr.alloc (.cells #[.slice ao L.length c2] 40)).cell? ⟨wr.heap.size, 0, none⟩ = some (.slice ao L.length c2) := by simp
      have hz : w.heap.size ≤ (wr.alloc (.cells #[.slice ao L.length c2] 40)).heap.size := hblA.size
      clear hps hT hbl
      go_wp2_with (go_at_call 13; refine (Args_any wr.heap.size ao c2 L name _ hL hS hn hco hG hTa).mono ?_; rintro e w4 ⟨v, rfl, hg, hn4, hb4⟩)
      go_ret
      exact ⟨_, rfl, hg.base hz, hn4, hblA.trans (hb4.mono hz)⟩

/-- THE CONTRACT OF ZZArgsNil. -/
theorem argsNil (name : ByteArray) (w : World) :
    Calls Tryd.prog 8 #[.string name] w fun e w' => e = .returned (.slice none 0 0) ∧ w' = w := by
  go_enter Tryd.func8, Tryd.ntmps8
  go_wp2
  go_ret
  exact ⟨rfl, rfl⟩

end Go.Proofs.Qxb6627834aDoor.argsof
