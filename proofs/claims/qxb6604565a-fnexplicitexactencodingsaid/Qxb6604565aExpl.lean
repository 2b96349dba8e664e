import Derived.Test.Qxb6604565aCons
namespace Go.Proofs.Qxb6604565a
open Go.RowKit
set_option linter.unusedVariables false

def put8 (w : World) (r : Nat) (v0 v1 v2 v3 v4 v5 v6 v7 : Value) : World :=
  (((((((w.setCell ⟨r, 0, none⟩ v0).setCell ⟨r, 1, none⟩ v1).setCell ⟨r, 2, none⟩ v2).setCell ⟨r, 3, none⟩ v3).setCell ⟨r, 4, none⟩ v4).setCell ⟨r, 5, none⟩ v5).setCell ⟨r, 6, none⟩ v6).setCell ⟨r, 7, none⟩ v7
theorem put8_heap (w : World) (r k : Nat) (v0 v1 v2 v3 v4 v5 v6 v7 : Value) (h : k ≠ r) : (put8 w r v0 v1 v2 v3 v4 v5 v6 v7).heap[k]? = w.heap[k]? := by
  unfold put8
  rw [Below.heap_setCell _ _ _ _ h, Below.heap_setCell _ _ _ _ h, Below.heap_setCell _ _ _ _ h, Below.heap_setCell _ _ _ _ h, Below.heap_setCell _ _ _ _ h, Below.heap_setCell _ _ _ _ h, Below.heap_setCell _ _ _ _ h, Below.heap_setCell _ _ _ _ h]
theorem expl_row {w1 : World} {g c r : Nat} {zs : List Int} (h : Row 5 w1 g c zs) (v0 v1 v2 v3 v4 v5 v6 v7 : Value) (hne : g ≠ r) : Row 5 (put8 w1 r v0 v1 v2 v3 v4 v5 v6 v7) g c zs := h.same (put8_heap _ _ _ _ _ _ _ _ _ _ _ hne)
theorem expl_blk {w1 : World} {G r : Nat} {o : Obj} (h : w1.heap[G]? = some o) (v0 v1 v2 v3 v4 v5 v6 v7 : Value) (hne : G ≠ r) : (put8 w1 r v0 v1 v2 v3 v4 v5 v6 v7).heap[G]? = some o := (put8_heap _ _ _ _ _ _ _ _ _ _ _ hne).trans h
theorem expl_bel {w w1 : World} {r : Nat} (h : Below w.heap.size w w1) (v0 v1 v2 v3 v4 v5 v6 v7 : Value) (hr : w.heap.size ≤ r) : Below w.heap.size w (put8 w1 r v0 v1 v2 v3 v4 v5 v6 v7) :=
  (((((((h.setCell hr _).setCell hr _).setCell hr _).setCell hr _).setCell hr _).setCell hr _).setCell hr _).setCell hr _
/-- 'Constructed' in a world in which the result's block and the element's lie -/
theorem expl_in (w W : World) (n N M G c1 c2 : Nat) (cl num off co : Int) (con : Bool) (p q : Option Addr) (E : List Int) (o2 : Obj) (hn2 : n < 4294967296) (hN : N ≤ 1048576) (hE : E.length = N) (hp : Byt w p E)
    (hB : Below w.heap.size w W) (h2 : W.heap[w.heap.size + 1]? = some o2) (hG : W.heap[G]? = some (.cells (elemCells cl num con off p q N c1 M c2 co) 31 (0, 0))) :
    Calls Try.prog 14 #[.agg #[.int .u8 2, .int .u32 n], .slice (some ⟨G, 0, none⟩) 1 1] W fun e w' => ∃ L1 L2 g ap, IdentOf n L1 ∧ LenOf N L2 ∧ (0 < N → ap = some ⟨g, (L1 ++ L2).length, none⟩) ∧
      e = .returned (.agg #[.int .u8 2, .int .u32 n, .bool true, .int .i64 0, .slice (some ⟨g, 0, none⟩) ((L1 ++ L2).length + N) ((L1 ++ L2).length + N), .slice ap N N, .int .i64 (L1 ++ L2).length, .slice (some ⟨G, 0, none⟩) 1 1]) ∧
      w.heap.size + 1 < g ∧ Row 5 w' g ((L1 ++ L2).length + N) ((L1 ++ L2) ++ E) ∧ w'.heap[G]? = some (.cells (elemCells cl num con off p q N c1 M c2 co) 31 (0, 0)) ∧ w'.heap[w.heap.size + 1]? = some o2 ∧ Below w.heap.size w w' := by
  have l2 : w.heap.size + 1 < W.heap.size := (Array.getElem?_eq_some_iff.1 h2).1
  have lG : G < W.heap.size := (Array.getElem?_eq_some_iff.1 hG).1
  refine (cons_any W n N M G c1 c2 31 cl num off co con p q E hn2 hN hG hE (hp.below hB)).mono ?_
  rintro e w' ⟨L1, L2, g, ap, h1, h3, h4, h5, h6, h7, h8⟩
  exact ⟨L1, L2, g, ap, h1, h3, h4, h5, by omega, h7, (h8.block G lG).trans hG, (h8.block _ l2).trans h2, hB.trans (h8.mono (by omega))⟩
theorem four_world (w : World) (o1 o2 o3 o4 : Obj) : Below w.heap.size w ((((w.alloc o1).alloc o2).alloc o3).alloc o4).drew ∧ ((((w.alloc o1).alloc o2).alloc o3).alloc o4).drew.heap[w.heap.size + 1]? = some o2 ∧
    ((((w.alloc o1).alloc o2).alloc o3).alloc o4).drew.heap[w.heap.size + 1 + 1]? = some o3 ∧ ((((w.alloc o1).alloc o2).alloc o3).alloc o4).drew.heap[w.heap.size + 1 + 1 + 1]? = some o4 := by
  refine ⟨(((((Below.refl _ w).alloc (Nat.le_refl _) o1).alloc (by simp) o2).alloc (by simp; omega) o3).alloc (by simp; omega) o4).drew, ?_, ?_, ?_⟩
  · show ((((w.alloc o1).alloc o2).alloc o3).alloc o4).heap[w.heap.size + 1]? = _
    rw [Below.heap_alloc _ _ _ (by simp), Below.heap_alloc _ _ _ (by simp)]
    have := heap_alloc_new (w.alloc o1) o2
    simpa using this
  · show ((((w.alloc o1).alloc o2).alloc o3).alloc o4).heap[w.heap.size + 1 + 1]? = _
    rw [Below.heap_alloc _ _ _ (by simp)]
    have := heap_alloc_new ((w.alloc o1).alloc o2) o3
    simpa using this
  · show ((((w.alloc o1).alloc o2).alloc o3).alloc o4).heap[w.heap.size + 1 + 1 + 1]? = _
    have := heap_alloc_new (((w.alloc o1).alloc o2).alloc o3) o4
    simpa using this

set_option maxHeartbeats 2000000 in
set_option maxRecDepth 100000 in
theorem expl_any (w : World) (n N M c1 c2 : Nat) (cl num off co : Int) (con : Bool) (p q : Option Addr) (E : List Int) (hn2 : n < 4294967296) (hN : N ≤ 1048576) (hE : E.length = N) (hp : Byt w p E) :
    Calls Try.prog 7 #[.int .u32 n, .agg #[.int .u8 cl, .int .u32 num, .bool con, .int .i64 off, .slice p N c1, .slice q M c2, .int .i64 co, .slice none 0 0]] w fun e w' => ∃ L1 L2 g ap G, IdentOf n L1 ∧ LenOf N L2 ∧ (0 < N → ap = some ⟨g, (L1 ++ L2).length, none⟩) ∧
      e = .returned (.agg #[.int .u8 2, .int .u32 n, .bool true, .int .i64 0, .slice (some ⟨g, 0, none⟩) ((L1 ++ L2).length + N) ((L1 ++ L2).length + N), .slice ap N N, .int .i64 (L1 ++ L2).length, .slice (some ⟨G, 0, none⟩) 1 1]) ∧
      Row 5 w' g ((L1 ++ L2).length + N) ((L1 ++ L2) ++ E) ∧ w'.heap[G]? = some (.cells (elemCells cl num con off p q N c1 M c2 co) 31 (0, 0)) ∧ Below w.heap.size w w' := by
  have HX := fun W G => expl_in w W n N M G c1 c2 cl num off co con p q E (Obj.cells #[.int .u8 0, .int .u32 0, .bool false, .int .i64 0, .slice none 0 0, .slice none 0 0, .int .i64 0, .slice none 0 0] 31) hn2 hN hE hp
  clear hp hE
  go_enter Try.func7, Try.ntmps7
  go_wp2
  go_region_with (first
    | (go_at_call 15; refine (ctx_any _ n).mono ?_; rintro e w' ⟨rfl, rfl⟩)
    | (go_at_call 14; refine (HX _ _ (four_world w _ _ _ _).1 (four_world w _ _ _ _).2.1 (by first | exact (four_world w _ _ _ _).2.2.2 | exact (four_world w _ _ _ _).2.2.1)).mono ?_; ( rintro e w1 ⟨L1, L2, g, ap, hL1, hL2, hap, rfl, hg, hrow, hG, hO, hb⟩; have r0 := cell_of (j := 0) (v := .int .u8 0) hO rfl; have r1 := cell_of (j := 1) (v := .int .u32 0) hO rfl; have r2 := cell_of (j := 2) (v := .bool false) hO rfl; have r3 := cell_of (j := 3) (v := .int .i64 0) hO rfl; have r4 := cell_of (j := 4) (v := .slice none 0 0) hO rfl; have r5 := cell_of (j := 5) (v := .slice none 0 0) hO rfl; have r6 := cell_of (j := 6) (v := .int .i64 0) hO rfl; have r7 := cell_of (j := 7) (v := .slice none 0 0) hO rfl; have fr : ∀ j, w1.frozen? ⟨w.heap.size + 1, j, none⟩ = false := fun j => frozen_of_row _ _ _ _ _ hO; obtain ⟨m, em⟩ : ∃ m, Hid ((L1 ++ L2).length = m) := ⟨_, rfl⟩; rw [em.out]; have HG : Hid (_ = _) := hG; have HO : Hid (_ = _) := hO; have HRow : Hid (Row _ _ _ _ _) := hrow; have Hb : Hid (Below _ _ _) := hb; clear hG hO hrow hb)))
  all_goals go_wp2
  · refine bodyPost_ret (v := .agg #[.int .u8 2, .int .u32 n, .bool true, .int .i64 0, .slice (some ⟨g, 0, none⟩) (m + N) (m + N), .slice ap N N, .int .i64 m, .slice (some ⟨w.heap.size + 1 + 1 + 1, 0, none⟩) 1 1]) (by simp [results, Try.results7, go_sem, r0, r1, r2, r3, r4, r5, r6, r7]) rfl ?_
    refine ⟨L1, L2, g, ap, w.heap.size + 1 + 1 + 1, hL1, hL2, hap, by rw [em.out], ?_, ?_, ?_⟩
    · exact expl_row HRow.out _ _ _ _ _ _ _ _ (by omega)
    · exact expl_blk HG.out _ _ _ _ _ _ _ _ (by omega)
    · exact expl_bel Hb.out _ _ _ _ _ _ _ _ (by omega)
  · refine bodyPost_ret (v := .agg #[.int .u8 2, .int .u32 n, .bool true, .int .i64 0, .slice (some ⟨g, 0, none⟩) (m + N) (m + N), .slice ap N N, .int .i64 m, .slice (some ⟨w.heap.size + 1 + 1 + 1, 0, none⟩) 1 1]) (by simp [results, Try.results7, go_sem, r0, r1, r2, r3, r4, r5, r6, r7]) rfl ?_
    refine ⟨L1, L2, g, ap, w.heap.size + 1 + 1 + 1, hL1, hL2, hap, by rw [em.out], ?_, ?_, ?_⟩
    · exact expl_row HRow.out _ _ _ _ _ _ _ _ (by omega)
    · exact expl_blk HG.out _ _ _ _ _ _ _ _ (by omega)
    · exact expl_bel Hb.out _ _ _ _ _ _ _ _ (by omega)
  · refine bodyPost_ret (v := .agg #[.int .u8 2, .int .u32 n, .bool true, .int .i64 0, .slice (some ⟨g, 0, none⟩) (m + N) (m + N), .slice ap N N, .int .i64 m, .slice (some ⟨w.heap.size + 1 + 1, 0, none⟩) 1 1]) (by simp [results, Try.results7, go_sem, r0, r1, r2, r3, r4, r5, r6, r7]) rfl ?_
    refine ⟨L1, L2, g, ap, w.heap.size + 1 + 1, hL1, hL2, hap, by rw [em.out], ?_, ?_, ?_⟩
    · exact expl_row HRow.out _ _ _ _ _ _ _ _ (by omega)
    · exact expl_blk HG.out _ _ _ _ _ _ _ _ (by omega)
    · exact expl_bel Hb.out _ _ _ _ _ _ _ _ (by omega)
end Go.Proofs.Qxb6604565a
