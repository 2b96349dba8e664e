import Derived.Test.Qxb6604565aUni
namespace Go.Proofs.Qxb6604565a
open Go.RowKit
set_option linter.unusedVariables false

theorem Row.aside {t : TypeId} {w : World} {G c : Nat} {zs : List Int} (h : Row t w G c zs) {g j : Nat} {v : Value} (hne : G ≠ g) : Row t (w.setCell ⟨g, j, none⟩ v) G c zs :=
  h.same (Below.heap_setCell w ⟨g, j, none⟩ v G hne)
theorem Row.drew {t : TypeId} {w : World} {G c : Nat} {zs : List Int} (h : Row t w G c zs) : Row t w.drew G c zs := h
theorem build_row (w : World) (o1 o2 : Obj) (c : Array Value) (hc : c.size = 16) : Row 48 ((((w.alloc o1).alloc o2).alloc (.cells c 48)).drew) (w.heap.size + 1 + 1) 16 [] := by
  refine ⟨c, ?_, hc, by simp, by simp⟩
  have := heap_alloc_new ((w.alloc o1).alloc o2) (.cells c 48)
  show (((w.alloc o1).alloc o2).alloc (.cells c 48)).heap[w.heap.size + 1 + 1]? = _
  simpa using this
theorem build_below (w : World) (o1 o2 o3 : Obj) : Below w.heap.size w ((((w.alloc o1).alloc o2).alloc o3).drew) :=
  ((((Below.refl _ w).alloc (Nat.le_refl _) o1).alloc (by simp) o2).alloc (by simp; omega) o3).drew
theorem build_old (w : World) (o1 o2 o3 : Obj) {w2 : World} (h : ((((w.alloc o1).alloc o2).alloc o3).drew).grownBy w2 (some (w.heap.size + 1 + 1))) :
    w2.heap[w.heap.size]? = some o1 ∧ w2.heap[w.heap.size + 1]? = some o2 ∧ w.heap.size + 3 ≤ w2.heap.size := by
  refine ⟨?_, ?_, ?_⟩
  · rw [h.block w.heap.size (by show _ < (((w.alloc o1).alloc o2).alloc o3).heap.size; simp; omega) (by simp; omega)]
    show (((w.alloc o1).alloc o2).alloc o3).heap[w.heap.size]? = _
    rw [Below.heap_alloc _ _ _ (by simp; omega), Below.heap_alloc _ _ _ (by simp), heap_alloc_new]
  · rw [h.block (w.heap.size + 1) (by show _ < (((w.alloc o1).alloc o2).alloc o3).heap.size; simp) (by simp)]
    show (((w.alloc o1).alloc o2).alloc o3).heap[w.heap.size + 1]? = _
    rw [Below.heap_alloc _ _ _ (by simp)]
    have := heap_alloc_new (w.alloc o1) o2
    simpa using this
  · have := h.size
    have e : ((((w.alloc o1).alloc o2).alloc o3).drew).heap.size = w.heap.size + 3 := by show (((w.alloc o1).alloc o2).alloc o3).heap.size = _; simp
    omega
theorem below_of_grown {B g : Nat} {w0 w w' : World} (h : Below B w0 w) (hg : w.grownBy w' (some g)) (hB : B ≤ g) (hs : B ≤ w.heap.size) : Below B w0 w' :=
  h.trans ⟨hg.os, hg.tape, hg.output, hg.size, fun k hk => hg.block k (by omega) (by simp; omega)⟩

set_option maxHeartbeats 2000000 in
set_option maxRecDepth 100000 in
theorem build_any (w : World) (n N : Nat) (hn2 : n < 4294967296) (hN : N ≤ 1048576) :
    Calls Try.prog 18 #[.agg #[.int .u8 2, .int .u32 n], .bool true, .int .i64 N] w fun e w' => ∃ L1 L2 g ap, IdentOf n L1 ∧ LenOf N L2 ∧ (0 < N → ap = some ⟨g, (L1 ++ L2).length, none⟩) ∧
      e = .returned (.agg #[.int .u8 2, .int .u32 n, .bool true, .int .i64 0, .slice (some ⟨g, 0, none⟩) ((L1 ++ L2).length + N) ((L1 ++ L2).length + N), .slice ap N N, .int .i64 (L1 ++ L2).length, .slice none 0 0]) ∧
      w.heap.size ≤ g ∧ Row 5 w' g ((L1 ++ L2).length + N) ((L1 ++ L2) ++ List.replicate N 0) ∧ Below w.heap.size w w' := by
  obtain ⟨i0, hi, hz0, hz1, hz2⟩ := info_parts Try.info5
  have HG0 : Hid (Below w.heap.size w ((((w.alloc (Obj.cells #[Value.int .u8 2, Value.int .u32 (n : Int)] 28)).alloc (Obj.cells #[.int .u8 0, .int .u32 0, .bool false, .int .i64 0, .slice none 0 0, .slice none 0 0, .int .i64 0, .slice none 0 0] 31)).alloc
      (Obj.cells #[.int .u8 0, .int .u8 0, .int .u8 0, .int .u8 0, .int .u8 0, .int .u8 0, .int .u8 0, .int .u8 0, .int .u8 0, .int .u8 0, .int .u8 0, .int .u8 0, .int .u8 0, .int .u8 0, .int .u8 0, .int .u8 0] 48)).drew)) := build_below w _ _ _
  have HA := aid_any _ 48 _ n hn2 (build_row w (Obj.cells #[Value.int .u8 2, Value.int .u32 (n : Int)] 28) (Obj.cells #[.int .u8 0, .int .u32 0, .bool false, .int .i64 0, .slice none 0 0, .slice none 0 0, .int .i64 0, .slice none 0 0] 31)
      #[.int .u8 0, .int .u8 0, .int .u8 0, .int .u8 0, .int .u8 0, .int .u8 0, .int .u8 0, .int .u8 0, .int .u8 0, .int .u8 0, .int .u8 0, .int .u8 0, .int .u8 0, .int .u8 0, .int .u8 0, .int .u8 0] rfl)
  go_enter Try.func18, Try.ntmps18
  go_wp2
  go_region_with (first
    | (go_at_call 19; refine HA.mono ?_; rintro e w1 ⟨L1, hL1, rfl, hrow1, hgr1⟩)
    | (go_at_call 21; refine (alen_any w1 48 _ N L1 (by omega) (by have := hL1.len hn2; omega) hrow1).mono ?_; rintro e w2 ⟨L2, hL2, rfl, hrow2, hgr2⟩;
       obtain ⟨b1, b2, b3⟩ := build_old _ _ _ _ (grownBy_trans hgr1 hgr2);
       have HB2 : Hid (Below w.heap.size w w2) := below_of_grown HG0.out (grownBy_trans hgr1 hgr2) (by omega) (by show _ ≤ (((w.alloc _).alloc _).alloc _).heap.size; simp; omega);
       have HR2 : Hid (Row 48 w2 (w.heap.size + 1 + 1) 16 (L1 ++ L2)) := hrow2;
       have HL1 : Hid (IdentOf n L1) := hL1;
       have HL2 : Hid (LenOf N L2) := hL2;
       have hl1 := hL1.len hn2;
       have hl2 := hL2.len (show N ≤ 2097152 by omega);
       obtain ⟨m, em⟩ : ∃ m, Hid ((L1 ++ L2).length = m) := ⟨_, rfl⟩;
       have hm : m ≤ 10 := by (rw [← em.out, List.length_append]; omega);
       rw [em.out];
       clear hrow2 hgr2 hL1 hL2 hl1 hl2 hrow1 hgr1 HG0))
  have c0 := cell_of (j := 0) (v := .int .u8 2) b1 rfl
  have c1 := cell_of (j := 1) (v := .int .u32 (n : Int)) b1 rfl
  have B2 : Hid (w2.heap[w.heap.size + 1]? = some (Obj.cells #[.int .u8 0, .int .u32 0, .bool false, .int .i64 0, .slice none 0 0, .slice none 0 0, .int .i64 0, .slice none 0 0] 31)) := b2
  clear b1 b2 HA
  have hmk := fun w => run_make (P := Try.prog) w 23 5 i0 (.int .u8 0) Try.underlying23 hi hz0 .i64 .i64 ((m : Int) + N) ((m : Int) + N) (by omega) (by omega) (by rw [hz2]; omega) (by omega)
  have et : ((m : Int) + N).toNat = m + N := by omega
  simp only [hz1, Nat.mul_one, et] at hmk
  clear et
  obtain ⟨w3, hcp, HR3, hbb, _⟩ := run_copy_full (w2.alloc (Obj.cells (madeCells #[Value.int .u8 0] (m + N)) 5)) 3 (some ⟨w2.heap.size, 0, none⟩) (some ⟨w.heap.size + 1 + 1, 0, none⟩) (m + N) (m + N) m 16 w2.heap.size 0 (m + N) (List.replicate (m + N) 0) (L1 ++ L2) (made_row w2 (m + N) 5) (by simp) em.out (by omega)
    ((HR2.out.grown (grownBy_alloc' _ _ none) (by simp)).byt) (fun _ => rfl) (by rw [em.out]; omega)
  have hb3 := hbb w2.heap.size w2 ((Below.refl _ _).alloc (Nat.le_refl _) _) (Nat.le_refl _)
  clear hbb
  go_wp2
  have d0 := (hb3.cell (p := ⟨w.heap.size, 0, none⟩) (by show w.heap.size < _; omega)).trans c0
  have d1 := (hb3.cell (p := ⟨w.heap.size, 1, none⟩) (by show w.heap.size < _; omega)).trans c1
  have b4 := (hb3.block (w.heap.size + 1) (by omega)).trans B2.out
  have e0 := cell_of (j := 0) (v := .int .u8 0) b4 rfl
  have e1 := cell_of (j := 1) (v := .int .u32 0) b4 rfl
  have e2 := cell_of (j := 2) (v := .bool false) b4 rfl
  have e3 := cell_of (j := 3) (v := .int .i64 0) b4 rfl
  have e4 := cell_of (j := 4) (v := .slice none 0 0) b4 rfl
  have e5 := cell_of (j := 5) (v := .slice none 0 0) b4 rfl
  have e6 := cell_of (j := 6) (v := .int .i64 0) b4 rfl
  have e7 := cell_of (j := 7) (v := .slice none 0 0) b4 rfl
  have fz : ∀ j, w3.frozen? ⟨w.heap.size + 1, j, none⟩ = false := fun j => frozen_of_row _ _ _ _ _ b4
  have HB3 : Hid (Below w.heap.size w w3) := HB2.out.trans (hb3.mono (by omega))
  have hs3 : w2.heap.size < w3.heap.size := HR3.out.lt
  clear hb3 b4 B2 c0 c1 hmk HR2 HB2 hcp
  go_region
  obtain ⟨ap, eap⟩ : ∃ ap, Hid (ap = if N = 0 then some (⟨w2.heap.size, 0, none⟩ : Addr) else some ⟨w2.heap.size, m, none⟩) := ⟨_, rfl⟩
  rw [← eap.out]
  have HA : Hid (0 < N → ap = some ⟨w2.heap.size, m, none⟩) := fun h => by rw [eap.out, if_neg (by omega)]
  clear eap
  go_wp2
  refine bodyPost_ret (v := .agg #[.int .u8 2, .int .u32 n, .bool true, .int .i64 0, .slice (some ⟨w2.heap.size, 0, none⟩) (m + N) (m + N), .slice ap N N, .int .i64 m, .slice none 0 0]) ?_ rfl ?_
  · simp [results, Try.results18, go_sem, e0, e1, e2, e3, e4, e5, e6, e7]
    try rfl
  refine ⟨L1, L2, w2.heap.size, ap, HL1.out, HL2.out, by rw [em.out]; exact HA.out, by rw [em.out], by omega, ?_, ?_⟩
  · rw [em.out]
    have e : splice (List.replicate (m + N) (0 : Int)) 0 (L1 ++ L2) = (L1 ++ L2) ++ List.replicate N 0 := by
      simp only [splice, List.take_zero, List.nil_append, Nat.zero_add, em.out, List.drop_replicate, Nat.add_sub_cancel_left]
    have r := HR3.out
    rw [e] at r
    have hne : w2.heap.size ≠ w.heap.size + 1 := by omega
    refine Row.drew ?_
    refine Row.aside (Row.aside (Row.aside (Row.aside (Row.aside (Row.aside (Row.aside (Row.aside r hne) hne) hne) hne) hne) hne) hne) hne
  · exact ((((((((HB3.out.setCell (by simp) _).setCell (by simp) _).setCell (by simp) _).setCell (by simp) _).setCell (by simp) _).setCell (by simp) _).setCell (by simp) _).setCell (by simp) _).drew
end Go.Proofs.Qxb6604565a
