/-
  Rows.FnArgsInsertedDirectiveLandsInItsPlaceCardSaid proved: the row over the walk (Qxb6627834aDoorIns), then the tied card.
-/
import Derived.Test.Qxb6627834aDoorIns
import Derived.Test.Qxb6627834aDoorLaid
import Derived.Test.Qxb6627834aDoorTie
import Derived.Test.Qxb6627834aDoorCards
import Derived.SliceStrings
import Derived.ShutString
import Derived.ChangeOld
namespace Go.Proofs.Qxb6627834aDoor.insProof
open Go.ChangeShapes Go.WideShapes Go.ChangeAt Go.WideMaps Go.WideElems Go.RowKit
open Go.ChangeMaps (open_string shut_string)
open Go.Proofs.Qxb6627834aDoor.laid
set_option linter.unusedVariables false

theorem getD_take (ss : List ByteArray) (n i : Nat) (h : i < n) : (ss.take n).getD i ByteArray.empty = ss.getD i ByteArray.empty := by
  rw [List.getD_eq_getElem?_getD, List.getD_eq_getElem?_getD, List.getElem?_take, if_pos h]

theorem walk_any (x : Addr) (len cap : Nat) (ss : List ByteArray) (name y : ByteArray) (k : Int) (W : World) (hl : len ≤ cap) (hm : cap ≤ maxLen) (hz : ss.length = cap) (hc : ∀ i, i < ss.length → W.cell? (x.add i) = some (.string (ss.getD i ByteArray.empty))) (hs : ∀ s ∈ ss, s.size ≤ maxLen) (hn : name.size ≤ maxLen) (hy : y.size ≤ maxLen) (hT : args.Tabs W) :
    Calls Tryd.prog 4 #[.slice (some x) len cap, .string name, .string y, .int .i64 k] W fun e w' => e = .returned (.bool true) ∧ Below W.heap.size W w' := by
  unfold maxLen at hm hn hs hy
  have hL : (ss.take len).length = len := by rw [List.length_take]; omega
  have h := ins.walk_some x cap (ss.take len) name y k W (by omega) ?_ hn hy ?_ hT
  · rw [hL] at h; exact h
  · intro i hi
    rw [hL] at hi
    rw [getD_take ss len i hi]
    have : ss.getD i ByteArray.empty ∈ ss := by
      rw [List.getD_eq_getElem?_getD, List.getElem?_eq_getElem (by omega)]
      exact List.getElem_mem _
    exact hs _ this
  · intro hp
    rw [hL] at hp
    obtain ⟨b, off, spot⟩ := x
    have h0 := hc 0 (by omega)
    have hsp : spot = none := by simpa [Addr.add] using World.cell?_spot h0
    subst hsp
    have hb : b < W.heap.size := by simpa [Addr.add] using block_lt_of_cell h0
    refine ⟨b, off, rfl, hb, fun i hi => ?_⟩
    rw [hL] at hi
    rw [getD_take ss len i hi, ← add_plain]
    exact hc i (by omega)

set_option maxRecDepth 100000 in
theorem lifted (os : Os) (started : os.Started) (H : Type) (enc : TypeId × Value → H) :
    ReturnsInHanded {} Tryd.checked os 4 .any (fun w args => (Rows.fnArgsInsertedDirectiveLandsInItsPlaceSpec.pre enc Tryd.prog Tryd.f4 [] false w args ∧ laidMetH Tryd.prog laid2 w) ∧ sizedMet enc Tryd.prog Tryd.f4 (OpenSpec.ofChange Rows.fnArgsInsertedDirectiveLandsInItsPlaceSpec) false w args)
      (Rows.fnArgsInsertedDirectiveLandsInItsPlaceSpec.post enc Tryd.prog Tryd.f4 false true false false) := by
  refine returnsInHanded_of_change_and (C := Tryd.checked) (X := fun w _ => laidMetH Tryd.prog laid2 w) (fun _ _ _ hh h => h.of_heap hh) own started (by kernel_rfl) Tryd.func4
    (ChangeSpec.witness_shaped (enc := enc) (C := Tryd.checked) (os := os) (X := fun w _ => laidMetH Tryd.prog laid2 w) false (World.doorLaid Tryd.prog 400 os) #[.slice none 0 0, .string ⟨#[]⟩, .string ⟨#[]⟩, .int .i64 0] 8 rfl (World.shaped_of_RefB (by kernel_rfl) (by kernel_rfl)) (by kernel_rfl) (by kernel_rfl) (by kernel_rfl) (door_met os _)) ?_
  intro W base args ds gs before hval0 hW _ _ hL _
  have hval : ∀ (j : Nat) t v, Tryd.f4.params[j]? = some t → args[j]? = some v → Value.okWide Tryd.prog W .any base t v := hval0
  have hW' := hW
  obtain ⟨p, q, hA0, hV, rfl, hfz, hnd⟩ := hW
  have hA : DataW.TrodAll enc Tryd.prog W 0 (fun _ => true) true Tryd.f4.params.toList args.toList ds p := hA0
  rw [Tryd.params4] at hA hval
  obtain ⟨v0, vs0, d0, ds0, p0, q0, hargs, rfl, rfl, h0, r0⟩ := trodAll_cons hA
  obtain ⟨v1, vs1, d1, ds1, p1, q1, rfl, rfl, rfl, h1, r1⟩ := trodAll_cons r0
  obtain ⟨v2, vs2, d2, ds2, p2, q2, rfl, rfl, rfl, h2, r2⟩ := trodAll_cons r1
  obtain ⟨v3, vs3, d3, ds3, p3, q3, rfl, rfl, rfl, h3, r3⟩ := trodAll_cons r2
  obtain ⟨rfl, rfl, rfl⟩ := trodAll_nil r3
  obtain rfl : args = #[v0, v1, v2, v3] := by cases args; simp_all
  obtain ⟨rfl, rfl⟩ := trodVars_none hV
  obtain ⟨a0, len0, cap0, rfl⟩ := okWide_slice Tryd.underlying22 (hval 0 22 v0 rfl rfl)
  have k0 := h0
  have lt0 : ∀ x ∈ p0, x.block < W.heap.size := by obtain ⟨m, hm⟩ := k0; exact DataW.trod_lt m _ _ _ hm
  obtain ⟨name, rfl, rfl, rfl, wn⟩ := open_string Tryd.underlying9 (hval 1 9 v1 rfl rfl) h1
  obtain ⟨y, rfl, rfl, rfl, wy⟩ := open_string Tryd.underlying9 (hval 2 9 v2 rfl rfl) h2
  obtain ⟨k, rfl, rfl, rfl, wk⟩ := open_int Tryd.underlying3 (hval 3 3 v3 rfl rfl) h3
  have hT := tabs_of hL
  clear hA0 hval0
  have fin : Calls Tryd.prog 4 #[.slice a0 len0 cap0, .string name, .string y, .int .i64 k] W fun e w' => e = .returned (.bool true) ∧ Below W.heap.size W w' := by
    obtain ⟨fuel, hf⟩ := h0
    rcases open_strings Tryd.underlying22 Tryd.underlying9 (by kernel_rfl) hf with ⟨hcs, _⟩ | ⟨x, l, c, ss, hcs, _, hl, hm, hz, _, hcell, hws⟩
    · simp [Value.cells] at hcs
      obtain ⟨rfl, rfl, rfl⟩ := hcs
      exact ins.walk_none none rfl 0 [] name y k W (Nat.zero_le _) (fun i h => by simp at h) (by unfold maxLen at wn; exact wn) (by unfold maxLen at wy; exact wy) (split.texts_nil _ _) hT
    · simp [Value.cells] at hcs
      obtain ⟨rfl, rfl, rfl⟩ := hcs
      exact walk_any x len0 cap0 ss name y k W hl hm (by simpa using hz) hcell hws wn wy hT
  refine fin.mono fun e W' ⟨he, bel⟩ => ?_
  subst he
  exact ⟨_, rfl, _, _, _, [], _, [], hW', trodAll_mk1 (shut_bool Tryd.underlying4 _), (trodAll_cons_mk (Below.trod laidOut (by kernel_rfl) (of_decide_eq_true (by kernel_rfl)) k0 bel lt0) (trodAll_cons_mk (shut_string Tryd.underlying9 wn) (trodAll_cons_mk (shut_string Tryd.underlying9 wy) (trodAll_cons_mk (shut_int Tryd.underlying3 wk) trodAll_mk0)))), rfl, bel.frame _, fun h => by cases h⟩

/-- THE ROW. -/
theorem over : Rows.FnArgsInsertedDirectiveLandsInItsPlaceSaid :=
  OpenClaim.holds_of_wide 4 Tryd.f4 rfl rfl rfl rfl rfl rfl rfl ⟨rfl, rfl, rfl, rfl, rfl⟩ rfl rfl rfl rfl rfl (by kernel_rfl) Tryd.func4 (by kernel_rfl)
    (of_decide_eq_true (by kernel_rfl)) (by unfold Func.isWrapper; first | (rw [if_pos (by decide +kernel)]; kernel_rfl) | (rw [if_neg (by decide +kernel)]; exact ⟨rfl, rfl⟩))
    (fun os started H enc _ => lifted os started H enc)

/-- THE TIED CARD: THE STATEMENT. -/
theorem proved : Rows.FnArgsInsertedDirectiveLandsInItsPlaceCardSaid :=
  Claim7.holds_tied_plain_at .later [] [.listed, .data] true (true, "e7b39979a535cc0ad1753ac5538615e75e621d5e158fe8b0b782cf022e593cf4") false
    over (fun _ h => by cases h) (by kernel_rfl) (fun _ h => by cases h) fnArgsInsertedDirectiveLandsInItsPlace_row_tie rfl ⟨rfl, rfl⟩ (by kernel_rfl) rfl
    (fun f fn hf hfn => by
      obtain rfl : f = 4 := Option.some.inj ((show Tryd.prog.funcNamed Rows.fnArgsInsertedDirectiveLandsInItsPlaceRow.func = some 4 by kernel_rfl).symm.trans hf) |>.symm
      obtain rfl : fn = Tryd.f4 := (Option.some.inj (Tryd.func4.symm.trans hfn)).symm
      exact ⟨by kernel_rfl, fun j t ht => by
        rw [Tryd.params4] at ht
        have hm : t ∈ [22, 9, 9, 3] := by simpa using Array.mem_of_getElem? ht
        have hall : ([22, 9, 9, 3].all fun u => !Tryd.prog.wantsStandIn u) = true := by kernel_rfl
        exact (show Tryd.prog.wantsStandIn t = false by simpa using List.all_eq_true.1 hall t hm)⟩)
    (by kernel_rfl)
#print axioms proved
end Go.Proofs.Qxb6627834aDoor.insProof
