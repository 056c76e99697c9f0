/-
  The contract of digraph.NewAdjacency (function 7).
-/
import Derived.Test.Qxb6627878aLeaf
import Derived.Deep.RegionLaw
namespace Go.Proofs.Qxb6627878a.adj
open Go.RowKit Go.Proofs.Qxb6627878a.plain Go.Proofs.Qxb6627878a.leaf
set_option linter.unusedVariables false

theorem below_rowIs {B : Nat} {w w' : World} {b : Nat} {t : TypeId} {n : Nat} {f : Nat → Value} (h : w.rowIs b t n f) (hb : Below B w w') (hlt : b < B) : w'.rowIs b t n f := h.of_block (hb.block b hlt)

/-- copy(s[1:], s[:n]) on an own row of n+1 cells, as one step of a region that draws. -/
theorem step_copy_shift {P : Program} {ops : Array Oper} {o : Oper} {a : Act} {w : World} {K : Act → World → Prop} {Q : Exit → Act → World → Prop} {E : Prop} (hgd : o.guard = none) (d s : Operand) (dT sT : TypeId)
    (ho : o.op = .call { callee := .builtin .copy, args := #[d, s], argTypes := #[dT, sT] }) (elem : TypeId) (hu : P.underlying dT = some (.slice elem)) (hsz : (P.info? elem).map (·.size) = some 1)
    (dp sp : Option Addr) (dLen dCap sLen sCap : Nat) (hd : a.eval d = .slice dp dLen dCap) (hs : a.eval s = .slice sp sLen sCap)
    (g n : Nat) (t : TypeId) (f : Nat → Value) (hr : w.rowIs g t (n + 1) f) (hdl : dLen = n) (hsl : sLen = n)
    (hpos : 0 < n → dp = some ⟨g, 1, none⟩ ∧ sp = some ⟨g, 0, none⟩) (h1 : ∀ v, (f v).oneCell' = true)
    (h : ∀ w', Hid (w'.rowIs g t (n + 1) (fun v => if v = 0 then f 0 else f (v - 1))) → Hid (∀ k, k ≠ g → w'.heap[k]? = w.heap[k]?) → Below g w w' → K (a.put o.dst (goInt n)) w') :
    if Region.wanted o (yielded ops a.tmps) = true then Oper.wp P o a w K Q else E := by
  have hw : Region.wanted o (yielded ops a.tmps) = true := by simp [Region.wanted, hgd]
  rw [if_pos hw]
  subst hdl; subst hsl
  by_cases h0 : sLen = 0
  · have hrun := run_copy_none (P := P) w dT sT o.type elem dp sp sLen dCap sLen sCap hu hsz (by simpa using h0)
    unfold Oper.wp
    simp [execOp, ho, resolve, invoke, builtin, hd, hs, hrun, Result.andThen]
    subst h0
    refine h w (show World.rowIs _ _ _ _ _ from hr.congr fun v hv => ?_) (fun k _ => rfl) (Below.refl _ _)
    have : v = 0 := by omega
    subst this; rfl
  · obtain ⟨rfl, rfl⟩ := hpos (by omega)
    obtain ⟨cur, hg, hcs, hcc⟩ := hr
    have hlen : ((List.range sLen).map f).length = Nat.min sLen sLen := by simp
    have hsrc : ∀ j v, ((List.range sLen).map f)[j]? = some v → w.cell? (Addr.add ⟨g, 0, none⟩ j) = some v := by
      intro j v hj
      have hjl : j < sLen := by
        have := (List.getElem?_eq_some_iff.1 hj).1
        simpa using this
      rw [List.getElem?_map, List.getElem?_range hjl] at hj
      have hr' : w.rowIs g t (sLen + 1) f := ⟨cur, hg, hcs, hcc⟩
      have := hr'.cell (i := j) (by omega)
      have hadd : Addr.add ⟨g, 0, none⟩ j = ⟨g, j, none⟩ := by
        by_cases hj0 : j = 0
        · subst hj0; rfl
        · simp [Addr.add, hj0]
      rw [hadd, this]
      simpa using hj
    have hfit : 1 + ((List.range sLen).map f).length ≤ cur.size := by rw [hcs]; simp; omega
    have hrun := run_copy_row (P := P) w dT sT o.type elem g 1 sLen dCap ⟨g, 0, none⟩ sLen sCap cur t ((List.range sLen).map f) hu hsz hg hlen hsrc hfit (by intro v hv; obtain ⟨x, _, rfl⟩ := List.mem_map.1 hv; exact h1 x)
    unfold Oper.wp
    simp only [execOp, ho, resolve, invoke, builtin]
    simp [hrun, hd, hs, Result.andThen]
    have hrow := setRow_heap w g cur (cur.toList.take 1 ++ ((List.range sLen).map f ++ cur.toList.drop (1 + sLen))).toArray t _ hg
    refine h _ ⟨_, hrow, ?_, ?_⟩ (fun k hk => setRow_other w g k _ hk) (below_setRow (Below.refl _ _) (Nat.le_refl _) _)
    · simp; omega
    · intro i hi
      rw [List.getElem?_toArray]
      by_cases e : i = 0
      · subst e
        have := hcc 0 (by omega)
        rw [List.getElem?_append_left (by simp; omega)]
        simpa using this
      · rw [List.getElem?_append_right (by simp; omega)]
        have : (List.take 1 cur.toList).length = 1 := by simp; omega
        rw [this, List.getElem?_append_left (by simp; omega), List.getElem?_map, List.getElem?_range (by omega)]
        show some _ = some (if i = 0 then _ else _)
        rw [if_neg e]

set_option maxHeartbeats 4000000 in
set_option maxRecDepth 100000 in
/-- THE CONTRACT OF NewAdjacency. -/
theorem adj_any (n : Nat) (a : Option Addr) (c : Nat) (es : List E) (w : World) (hn : n ≤ 65536) (hl : es.length ≤ 65536) (hF : Fits es) (hI : In n es) (hE : Edges w a es) :
    Calls Try.prog 7 #[.int .i64 n, .slice a es.length c] w fun e w' => ∃ g1 g2 T, e = .returned (.agg #[.slice (some ⟨g1, 0, none⟩) (n + 1) (n + 1), .slice (some ⟨g2, 0, none⟩) es.length es.length]) ∧
      w'.rowIs g1 21 (n + 1) (fun v => .int .i32 (below es v : Nat)) ∧ w'.rowIs g2 21 es.length (fun i => .int .i32 (T i)) ∧ ToOk es n es.length T ∧ Below w.heap.size w w' := by
  obtain ⟨i0, hi, hz0, hz1, hz2⟩ := info_parts Try.info21
  go_enter Try.func7, Try.ntmps7
  go_wp2_with (at_make; refine wpList_make_full _ rfl _ _ 24 rfl (w.heap.size + 1) 21 i0 (.int .i32 0) 1 Try.underlying24 hi hz0 hz1 _ _ _ _ (n + 1) rfl rfl (by omega) (by omega) (by rw [hz2]; omega) (by unfold maxLen; omega) (by simp) ?_; intro w2 hown2 hgrow2)
  have ez : (w.alloc (.cells #[.slice none 0 0, .slice none 0 0] 26)).heap.size = w.heap.size + 1 := by simp
  rw [ez] at hown2
  have hS := irow_made hown2
  have hR : w2.rowIs w.heap.size 26 2 (fun _ => .slice none 0 0) := by
    refine ⟨#[.slice none 0 0, .slice none 0 0], ?_, rfl, fun i hi => ?_⟩
    · rw [hgrow2.block w.heap.size (by rw [ez]; omega) (by simp)]; exact heap_alloc_new _ _
    · match i, hi with
      | 0, _ => rfl
      | 1, _ => rfl
  have hb2 := ((Below.refl w.heap.size w).alloc (Nat.le_refl _) (.cells #[.slice none 0 0, .slice none 0 0] 26)).grown hgrow2 (by rw [ez]; omega) (fun k h => by cases h)
  have hg2 : w.heap.size + 1 < w2.heap.size := hS.lt
  clear hown2 hgrow2 ez
  go_loopg [17] es.length (fun g x wr => ∃ k : Nat, k ≤ es.length ∧ g = es.length - k ∧ x = .int .i64 k ∧ wr.rowIs w.heap.size 26 2 (fun _ => .slice none 0 0) ∧ wr.rowIs (w.heap.size + 1) 21 (n + 1) (fun v => .int .i32 (S1 es k v)) ∧ Below w.heap.size w wr)
  case atStart => exact ⟨0, Nat.zero_le _, rfl, rfl, hR, hS.congr (fun v _ => by rw [S1_zero]), hb2⟩
  case round =>
    clear hR hS hb2 hg2
    obtain ⟨k, hk, rfl, rfl, hR, hS, hbl⟩ := hrel
    by_cases hlt : k < es.length
    · obtain ⟨b, off, rfl, hb, hc⟩ := hE (by omega)
      have cf : wr.cell? ⟨b, off + k * 2, none⟩ = some (.int .i32 (es.getD k (0, 0)).1) := (hbl.cell (p := ⟨b, off + k * 2, none⟩) hb).trans (hc k hlt).1
      have ct : wr.cell? ⟨b, off + k * 2 + 1, none⟩ = some (.int .i32 (es.getD k (0, 0)).2) := (hbl.cell (p := ⟨b, off + k * 2 + 1, none⟩) hb).trans (hc k hlt).2
      obtain ⟨q1, q2⟩ := hI k hlt
      obtain ⟨f, hf⟩ := Int.eq_ofNat_of_zero_le q1
      have hst := fun v => S1_step es k v f hlt hf
      have hfn : f < n := by omega
      rw [hf] at cf q1 q2
      have hbd := S1_bd es k (f + 1) hl
      have cS := hS.cell (i := f + 1) (by omega)
      have fS := hS.frozen (f + 1)
      have hlS := hS.lt
      have hlR := hR.lt
      have HN : Hid (∀ o : Obj, (((wr.setCell ⟨w.heap.size + 1, f + 1, none⟩ (.int .i32 (S1 es k (f + 1) + 1))).alloc o).rowIs (w.heap.size + 1) 21 (n + 1) (fun v => .int .i32 (S1 es (k + 1) v))) ∧ (((wr.setCell ⟨w.heap.size + 1, f + 1, none⟩ (.int .i32 (S1 es k (f + 1) + 1))).alloc o).rowIs w.heap.size 26 2 (fun _ => .slice none 0 0)) ∧ Below w.heap.size w ((wr.setCell ⟨w.heap.size + 1, f + 1, none⟩ (.int .i32 (S1 es k (f + 1) + 1))).alloc o)) := by
        intro o
        refine ⟨((hS.set (f + 1) _).alloc o).congr fun v hv => ?_, (hR.setOther (by simp) _).alloc o, (hbl.setCell (by simp) _).alloc (by have := hbl.size; simpa [World.setCell] using this) o⟩
        rw [hst v]
        split <;> rfl
      clear hst hf hc
      generalize S1 es k (f + 1) = z at *
      go_wp2
      go_roundg (es.length - (k + 1))
      case measure => omega
      case rel => exact ⟨k + 1, by omega, rfl, by go_num, (HN.out _).2.1, (HN.out _).1, (HN.out _).2.2⟩
    · have kb : decide (k < es.length) = false := decide_eq_false hlt
      have hS2 : wr.rowIs (w.heap.size + 1) 21 (n + 1) (fun v => .int .i32 (S2 es 0 v)) := hS.congr fun v _ => by
        rw [← S1_S2 es v (fun e he => (hI.mem e he).1), show k = es.length by omega]
      clear hS
      go_wp2
      go_loopg [31] n (fun g x wr => ∃ u : Nat, u ≤ n ∧ g = n - u ∧ x = .int .i64 u ∧ wr.rowIs w.heap.size 26 2 (fun _ => .slice none 0 0) ∧ wr.rowIs (w.heap.size + 1) 21 (n + 1) (fun v => .int .i32 (S2 es u v)) ∧ Below w.heap.size w wr)
      case atStart => exact ⟨0, Nat.zero_le _, rfl, rfl, hR, hS2, hbl⟩
      case round =>
        clear hR hS2 hbl kb hlt hk
        obtain ⟨u, hu, rfl, rfl, hR, hS, hbl⟩ := hrel
        by_cases hlt : u < n
        · have hst := fun v => S2_step es u v
          have hbd1 := S2_bd es u (u + 1) hl
          have hbd0 := S2_bd es u u hl
          have hbdn := S2_bd es (u + 1) (u + 1) hl
          have hsum := hst (u + 1)
          rw [if_pos rfl] at hsum
          rw [hsum] at hbdn
          have c1 := hS.cell (i := u + 1) (by omega)
          have c0 := hS.cell (i := u) (by omega)
          have f1 := hS.frozen (u + 1)
          have HN : Hid ((((wr.setCell ⟨w.heap.size + 1, u + 1, none⟩ (.int .i32 (S2 es u (u + 1) + S2 es u u))).drew).rowIs (w.heap.size + 1) 21 (n + 1) (fun v => .int .i32 (S2 es (u + 1) v))) ∧ (((wr.setCell ⟨w.heap.size + 1, u + 1, none⟩ (.int .i32 (S2 es u (u + 1) + S2 es u u))).drew).rowIs w.heap.size 26 2 (fun _ => .slice none 0 0)) ∧ Below w.heap.size w ((wr.setCell ⟨w.heap.size + 1, u + 1, none⟩ (.int .i32 (S2 es u (u + 1) + S2 es u u))).drew)) := by
            refine ⟨((hS.set (u + 1) _).congr fun v hv => ?_).drew, (hR.setOther (by simp) _).drew, (hbl.setCell (by simp) _).drew⟩
            rw [hst v]
            split <;> rfl
          have hz1 : (u : Int) + 1 < (n : Int) + 1 := by omega
          have hz0 : (u : Int) < (n : Int) + 1 := by omega
          clear hst hsum
          generalize S2 es u (u + 1) = z1 at *
          generalize S2 es u u = z0 at *
          go_wp2
          go_region
          all_goals
            go_wp2
            go_roundg (n - (u + 1))
            case measure => omega
            case rel => exact ⟨u + 1, by omega, rfl, by go_num, HN.out.2.1, HN.out.1, HN.out.2.2⟩
        · have ub : decide (u < n) = false := decide_eq_false hlt
          have hS3 : wr.rowIs (w.heap.size + 1) 21 (n + 1) (fun v => .int .i32 (S3 es 0 v)) := hS.congr fun v hv => by
            rw [← S2_S3 es n v (by omega), show u = n by omega]
          clear hS
          have hsz := hbl.size
          have hl1 := hS3.lt
          obtain ⟨g2, hg2⟩ : ∃ g2, Hid (g2 = wr.heap.size) := ⟨_, rfl⟩
          go_wp2_with (at_make; refine wpList_make_full _ rfl _ _ 24 rfl w.heap.size 21 i0 (.int .i32 0) 1 Try.underlying24 hi hz0 hz1 _ _ _ _ es.length rfl rfl (by omega) (by omega) (by rw [hz2]; omega) (by unfold maxLen; omega) (by omega) ?_; rw [← hg2.out]; intro w3 hown3 hgrow3)
          have hT := irow_made hown3
          have hR3 := hR.of_block (hgrow3.block w.heap.size (by omega) (by simp))
          have hS4 := hS3.of_block (hgrow3.block (w.heap.size + 1) (by omega) (by simp))
          have hb3 := hbl.grown hgrow3 hbl.size (fun k h => by cases h)
          have hgg : w.heap.size + 1 < g2 := by rw [hg2.out]; omega
          clear hown3 hgrow3 hR hS3 hbl hg2 hl1 hsz ub hlt hu
          go_loopg [51] es.length (fun g x wr => ∃ (k : Nat) (T : Nat → Int), k ≤ es.length ∧ g = es.length - k ∧ x = .int .i64 k ∧ wr.rowIs w.heap.size 26 2 (fun _ => .slice none 0 0) ∧ wr.rowIs (w.heap.size + 1) 21 (n + 1) (fun v => .int .i32 (S3 es k v)) ∧ wr.rowIs g2 21 es.length (fun i => .int .i32 (T i)) ∧ Hid (ToOk es n k T) ∧ Below w.heap.size w wr)
          case atStart => exact ⟨0, fun _ => 0, Nat.zero_le _, rfl, rfl, hR3, hS4, hT, toOk_zero _ _ _, hb3⟩
          case round =>
            clear hR3 hS4 hT hb3
            obtain ⟨k, T, hk, rfl, rfl, hR, hS, hT, hto, hbl⟩ := hrel
            by_cases hlt : k < es.length
            · obtain ⟨b, off, rfl, hb, hc⟩ := hE (by omega)
              have cf : wr.cell? ⟨b, off + k * 2, none⟩ = some (.int .i32 (es.getD k (0, 0)).1) := (hbl.cell (p := ⟨b, off + k * 2, none⟩) hb).trans (hc k hlt).1
              have ct : wr.cell? ⟨b, off + k * 2 + 1, none⟩ = some (.int .i32 (es.getD k (0, 0)).2) := (hbl.cell (p := ⟨b, off + k * 2 + 1, none⟩) hb).trans (hc k hlt).2
              obtain ⟨q1, q2⟩ := hI k hlt
              obtain ⟨f, hf⟩ := Int.eq_ofNat_of_zero_le q1
              have hst := fun v => S3_step es k v f hlt hf
              have hfn : f < n := by omega
              have hto2 := toOk_step hlt hf hfn hto.out
              have hbd := S3_lt es n k f hI hlt hf
              rw [hf] at cf q1 q2
              have hpe : S3 es k f = ((below es f + cnt (es.take k) f : Nat) : Int) := rfl
              have cS := hS.cell (i := f) (by omega)
              rw [hpe] at cS hbd
              obtain ⟨p, hp⟩ : ∃ p, p = below es f + cnt (es.take k) f := ⟨_, rfl⟩
              rw [← hp] at cS hbd hto2 hpe
              have hpl : p < es.length := by omega
              have cT := hT.cell hpl
              have fS := hS.frozen f
              have fT := hT.frozen p
              have hlS := hS.lt
              have hlT := hT.lt
              have hz1 : (f : Int) < (n : Int) + 1 := by omega
              have hne : ¬ w.heap.size + 1 = g2 := by omega
              have hne2 : ¬ g2 = w.heap.size + 1 := by omega
              have HN : Hid (∀ o : Obj, ((((wr.setCell ⟨g2, p, none⟩ (.int .i32 (es.getD k (0, 0)).2)).setCell ⟨w.heap.size + 1, f, none⟩ (.int .i32 ((p : Int) + 1))).alloc o).drew.rowIs (w.heap.size + 1) 21 (n + 1) (fun v => .int .i32 (S3 es (k + 1) v))) ∧
                  ((((wr.setCell ⟨g2, p, none⟩ (.int .i32 (es.getD k (0, 0)).2)).setCell ⟨w.heap.size + 1, f, none⟩ (.int .i32 ((p : Int) + 1))).alloc o).drew.rowIs w.heap.size 26 2 (fun _ => .slice none 0 0)) ∧
                  ((((wr.setCell ⟨g2, p, none⟩ (.int .i32 (es.getD k (0, 0)).2)).setCell ⟨w.heap.size + 1, f, none⟩ (.int .i32 ((p : Int) + 1))).alloc o).drew.rowIs g2 21 es.length (fun i => .int .i32 (if i = p then (es.getD k (0, 0)).2 else T i))) ∧
                  Below w.heap.size w (((wr.setCell ⟨g2, p, none⟩ (.int .i32 (es.getD k (0, 0)).2)).setCell ⟨w.heap.size + 1, f, none⟩ (.int .i32 ((p : Int) + 1))).alloc o).drew) := by
                intro o
                refine ⟨((((hS.setOther (by simp; omega) _).set f _).alloc o).drew).congr fun v hv => ?_, (((hR.setOther (by simp; omega) _).setOther (by simp) _).alloc o).drew, ((((hT.set p _).setOther (by simp; omega) _).alloc o).drew).congr fun v hv => ?_, (((hbl.setCell (by simp; omega) _).setCell (by simp) _).alloc (by have := hbl.size; simpa [World.setCell] using this) o).drew⟩
                · rw [hst v, hpe]
                  split <;> rfl
                · split <;> rfl
              have hto3 : Hid (ToOk es n (k + 1) (fun i => if i = p then (es.getD k (0, 0)).2 else T i)) := hto2
              clear hst hf hc hto2 hpe hp hR hS hT hto
              generalize (es.getD k (0, 0)).2 = t at *
              go_wp2
              go_region
              all_goals
                go_wp2
                go_roundg (es.length - (k + 1))
                case measure => omega
                case rel => exact ⟨k + 1, _, by omega, rfl, by go_num, (HN.out _).2.1, (HN.out _).1, (HN.out _).2.2.1, hto3, (HN.out _).2.2.2⟩
            · have kb : decide (k < es.length) = false := decide_eq_false hlt
              have hke : k = es.length := by omega
              subst hke
              have hS5 : wr.rowIs (w.heap.size + 1) 21 (n + 1) (fun v => .int .i32 (below es (v + 1) : Nat)) := hS.congr fun v hv => by rw [S3_end]
              clear hS
              go_wp2
              have hz3 : (1 : Int) ≤ (n : Int) + 1 := by omega
              have hz4 : (n : Int) ≤ (n : Int) + 1 := by omega
              go_region_law (refine step_copy_shift rfl (.tmp 73) (.tmp 76) 24 24 rfl 21 Try.underlying24 (by rw [hi]; simp [hz1]) (if n = 0 then some ⟨w.heap.size + 1, 0, none⟩ else some ⟨w.heap.size + 1, 1, none⟩) (some ⟨w.heap.size + 1, 0, none⟩) n n n (n + 1) (by simp [Act.eval, Act.put]) (by simp [Act.eval, Act.put]) (w.heap.size + 1) n 21 _ (World.rowIs.drew hS5) rfl rfl (fun h0 => ⟨if_neg (by omega), rfl⟩) (fun _ => rfl) ?_; intro w5 hr5 hk5 hb5)
              have hT5 : w5.rowIs g2 21 es.length (fun i => .int .i32 (T i)) := (World.rowIs.drew hT).of_block (hk5.out g2 (by omega))
              have hR5 : w5.rowIs w.heap.size 26 2 (fun _ => .slice none 0 0) := (World.rowIs.drew hR).of_block (hk5.out w.heap.size (by omega))
              have hB5 : Below w.heap.size w w5 := hbl.drew.trans (hb5.mono (by omega))
              have FIN : Hid (∀ x y : Value, (((w5.setCell ⟨w.heap.size + 1, 0, none⟩ (.int .i32 0)).setCell ⟨w.heap.size, 0, none⟩ x).setCell ⟨w.heap.size, 1, none⟩ y).rowIs (w.heap.size + 1) 21 (n + 1) (fun v => .int .i32 (below es v : Nat)) ∧ (((w5.setCell ⟨w.heap.size + 1, 0, none⟩ (.int .i32 0)).setCell ⟨w.heap.size, 0, none⟩ x).setCell ⟨w.heap.size, 1, none⟩ y).rowIs g2 21 es.length (fun i => .int .i32 (T i)) ∧
                  Below w.heap.size w (((w5.setCell ⟨w.heap.size + 1, 0, none⟩ (.int .i32 0)).setCell ⟨w.heap.size, 0, none⟩ x).setCell ⟨w.heap.size, 1, none⟩ y)) := by
                intro x y
                refine ⟨(((hr5.out.set 0 _).setOther (by simp) _).setOther (by simp) _).congr fun v hv => ?_, ((hT5.setOther (by simp; omega) _).setOther (by simp; omega) _).setOther (by simp; omega) _, ((hB5.setCell (by simp) _).setCell (by simp) _).setCell (by simp) _⟩
                by_cases e : v = 0
                · subst e; rw [if_pos rfl, below_zero es (fun e he => (hI.mem e he).1)]; rfl
                · rw [if_neg e, if_neg e, show v - 1 + 1 = v by omega]
              have FC0 : ∀ x : Value, ((w5.setCell ⟨w.heap.size + 1, 0, none⟩ (.int .i32 0)).setCell ⟨w.heap.size, 0, none⟩ x).cell? ⟨w.heap.size, 0, none⟩ = some x := fun x => by
                have := ((hR5.setOther (a := ⟨w.heap.size + 1, 0, none⟩) (by simp) (.int .i32 0)).set 0 x).cell (i := 0) (by omega)
                rwa [if_pos rfl] at this
              have FC1 : ∀ x y : Value, (((w5.setCell ⟨w.heap.size + 1, 0, none⟩ (.int .i32 0)).setCell ⟨w.heap.size, 0, none⟩ x).setCell ⟨w.heap.size, 1, none⟩ y).cell? ⟨w.heap.size, 1, none⟩ = some y := fun x y => by
                have := (((hR5.setOther (a := ⟨w.heap.size + 1, 0, none⟩) (by simp) (.int .i32 0)).set 0 x).set 1 y).cell (i := 1) (by omega)
                rwa [if_pos rfl] at this
              have c50 := hr5.out.cell (i := 0) (by omega)
              have f50 := hr5.out.frozen 0
              have r50 := hR5.cell (i := 0) (by omega)
              have r51 := hR5.cell (i := 1) (by omega)
              have fr0 := hR5.frozen 0
              have fr1 := hR5.frozen 1
              have l1 := hR5.lt
              have l2 := hr5.out.lt
              clear hr5 hk5 hb5 hT5 hR5 hB5 hR hT hS5 hbl
              generalize (if n = 0 then (some ⟨w.heap.size + 1, 0, none⟩ : Option Addr) else some ⟨w.heap.size + 1, 1, none⟩) = dpv
              go_wp2
              refine bodyPost_ret (v := .agg #[.slice (some ⟨w.heap.size + 1, 0, none⟩) (n + 1) (n + 1), .slice (some ⟨g2, 0, none⟩) es.length es.length]) (by simp [results, Try.results7, go_sem, FC0, FC1]) rfl ⟨w.heap.size + 1, g2, rfl, (FIN.out _ _).1, T, (FIN.out _ _).2.1, hto.out, (FIN.out _ _).2.2⟩

end Go.Proofs.Qxb6627878a.adj
