import Derived.Test.Qxb6604565aBuild
import Derived.LoopN
namespace Go.Proofs.Qxb6604565a
open Go.RowKit
set_option linter.unusedVariables false

theorem ctx_any (w : World) (n : Nat) : Calls Try.prog 15 #[.int .u32 n] w fun e w' => e = .returned (.agg #[.int .u8 2, .int .u32 n]) ∧ w.alloc (.cells #[.int .u8 2, .int .u32 (n : Int)] 28) = w' := by
  go_enter Try.func15, Try.ntmps15
  go_wp2
  refine bodyPost_ret (v := .agg #[.int .u8 2, .int .u32 n]) ?_ rfl ⟨rfl, rfl⟩
  simp [results, Try.results15, go_sem]
  try rfl

theorem cons_world (w : World) (o1 o2 o3 : Obj) {w1 : World} (h : Below (((w.alloc o1).alloc o2).alloc o3).heap.size (((w.alloc o1).alloc o2).alloc o3) w1) :
    Below w.heap.size w w1 ∧ w1.heap[w.heap.size + 1]? = some o2 ∧ w.heap.size + 3 ≤ w1.heap.size := by
  have e : (((w.alloc o1).alloc o2).alloc o3).heap.size = w.heap.size + 3 := by simp
  refine ⟨Below.trans ((((Below.refl _ w).alloc (Nat.le_refl _) o1).alloc (by simp) o2).alloc (by simp; omega) o3) (h.mono (by omega)), ?_, ?_⟩
  · rw [h.block (w.heap.size + 1) (by omega), Below.heap_alloc _ _ _ (by simp)]
    have := heap_alloc_new (w.alloc o1) o2
    simpa using this
  · have := h.size
    omega
theorem Row.box2 {t : TypeId} {w : World} {G c : Nat} {zs : List Int} (h : Row t w G c zs) (o1 o2 : Obj) : Row t ((w.alloc o1).alloc o2).drew G c zs :=
  Row.drew ((h.grown (grownBy_alloc' _ o1 none) (by simp)).grown (grownBy_alloc' _ o2 none) (by simp))
theorem Byt.box2 {w : World} {a : Option Addr} {zs : List Int} (h : Byt w a zs) (o1 o2 : Obj) : Byt ((w.alloc o1).alloc o2).drew a zs :=
  h.below (((Below.refl _ w).alloc (Nat.le_refl _) o1).alloc (by simp) o2).drew
theorem box2_world (w1 : World) (o1 o2 : Obj) {w2 : World} {g : Nat} (r : Nat) (hg : g < w1.heap.size) (hr : r < w1.heap.size) (hne : r ≠ g) (h : (((w1.alloc o1).alloc o2).drew).grownBy w2 (some g)) :
    w2.heap[w1.heap.size]? = some o1 ∧ w2.heap[r]? = w1.heap[r]? ∧ w1.heap.size + 2 ≤ w2.heap.size := by
  have es : (((w1.alloc o1).alloc o2).drew).heap.size = w1.heap.size + 2 := by show ((w1.alloc o1).alloc o2).heap.size = _; simp
  refine ⟨?_, ?_, ?_⟩
  · rw [h.block w1.heap.size (by omega) (by simp; omega)]
    show ((w1.alloc o1).alloc o2).heap[w1.heap.size]? = _
    rw [Below.heap_alloc _ _ _ (by simp), heap_alloc_new]
  · rw [h.block r (by omega) (by simp; omega)]
    show ((w1.alloc o1).alloc o2).heap[r]? = _
    rw [Below.heap_alloc _ _ _ (by simp; omega), Below.heap_alloc _ _ _ (by omega)]
  · have := h.size
    omega
theorem splice_tail (A E : List Int) (N m : Nat) (hm : A.length = m) (hE : E.length = N) : splice (A ++ List.replicate N 0) m E = A ++ E := by
  subst hm
  subst hE
  unfold splice
  rw [List.take_left', List.drop_eq_nil_of_le (by simp), List.append_nil]
  rfl
/-- the cells of an element -/
def elemCells (cl num : Int) (con : Bool) (off : Int) (p q : Option Addr) (N c1 M c2 : Nat) (co : Int) : Array Value :=
  #[.int .u8 cl, .int .u32 num, .bool con, .int .i64 off, .slice p N c1, .slice q M c2, .int .i64 co, .slice none 0 0]

set_option maxHeartbeats 2000000 in
set_option maxRecDepth 100000 in
theorem cons_any (w : World) (n N M G c1 c2 : Nat) (t : TypeId) (cl num off co : Int) (con : Bool) (p q : Option Addr) (E : List Int) (hn2 : n < 4294967296) (hN : N ≤ 1048576)
    (hG : w.heap[G]? = some (.cells (elemCells cl num con off p q N c1 M c2 co) t (0, 0))) (hE : E.length = N) (hp : Byt w p E) :
    Calls Try.prog 14 #[.agg #[.int .u8 2, .int .u32 n], .slice (some ⟨G, 0, none⟩) 1 1] w fun e w' => ∃ L1 L2 g ap, IdentOf n L1 ∧ LenOf N L2 ∧ (0 < N → ap = some ⟨g, (L1 ++ L2).length, none⟩) ∧
      e = .returned (.agg #[.int .u8 2, .int .u32 n, .bool true, .int .i64 0, .slice (some ⟨g, 0, none⟩) ((L1 ++ L2).length + N) ((L1 ++ L2).length + N), .slice ap N N, .int .i64 (L1 ++ L2).length, .slice (some ⟨G, 0, none⟩) 1 1]) ∧
      w.heap.size ≤ g ∧ Row 5 w' g ((L1 ++ L2).length + N) ((L1 ++ L2) ++ E) ∧ Below w.heap.size w w' := by
  have g0 := cell_of (j := 0) (v := .int .u8 cl) hG rfl
  have g1 := cell_of (j := 1) (v := .int .u32 num) hG rfl
  have g2 := cell_of (j := 2) (v := .bool con) hG rfl
  have g3 := cell_of (j := 3) (v := .int .i64 off) hG rfl
  have g4 := cell_of (j := 4) (v := .slice p N c1) hG rfl
  have g5 := cell_of (j := 5) (v := .slice q M c2) hG rfl
  have g6 := cell_of (j := 6) (v := .int .i64 co) hG rfl
  have g7 := cell_of (j := 7) (v := .slice none 0 0) hG rfl
  have hGl : G < w.heap.size := lt_of_cell g0
  have HP : Hid (Byt w p E) := hp
  have HE : Hid (E.length = N) := hE
  clear hG hp hE
  go_enter Try.func14, Try.ntmps14
  go_wp2
  refine wp_loop_rounds 2 ?_
  rw [rounds_succ]
  go_wp2_with fail
  rw [rounds_succ]
  go_wp2_with fail
  refine (build_any _ n N hn2 hN).mono ?_
  rintro e w1 ⟨L1, L2, g, ap, hL1, hL2, hap, rfl, hg, hrow, hb⟩
  obtain ⟨hb1, hb2, hs1⟩ := cons_world w _ _ _ hb
  obtain ⟨m, em⟩ : ∃ m, Hid ((L1 ++ L2).length = m) := ⟨_, rfl⟩
  have hl1 := hL1.len hn2
  have hl2 := hL2.len (show N ≤ 2097152 by omega)
  have hm : m ≤ 10 := by rw [← em.out, List.length_append]; omega
  rw [em.out] at hap hrow ⊢
  have hg' : w.heap.size + 3 ≤ g := by simpa using hg
  have hgs : g < w1.heap.size := hrow.lt
  have HL1 : Hid (IdentOf n L1) := hL1
  have HL2 : Hid (LenOf N L2) := hL2
  have HAP : Hid (0 < N → ap = some ⟨g, m, none⟩) := hap
  have HR1 : Hid (Row 5 w1 g (m + N) (L1 ++ L2 ++ List.replicate N 0)) := hrow
  have HB1 : Hid (Below w.heap.size w w1) := hb1
  have k0 := (hb1.cell (p := ⟨G, 0, none⟩) hGl).trans g0
  have k1 := (hb1.cell (p := ⟨G, 1, none⟩) hGl).trans g1
  have k2 := (hb1.cell (p := ⟨G, 2, none⟩) hGl).trans g2
  have k3 := (hb1.cell (p := ⟨G, 3, none⟩) hGl).trans g3
  have k4 := (hb1.cell (p := ⟨G, 4, none⟩) hGl).trans g4
  have k5 := (hb1.cell (p := ⟨G, 5, none⟩) hGl).trans g5
  have k6 := (hb1.cell (p := ⟨G, 6, none⟩) hGl).trans g6
  have k7 := (hb1.cell (p := ⟨G, 7, none⟩) hGl).trans g7
  have e0 := cell_of (j := 0) (v := .int .u8 0) hb2 rfl
  have e1 := cell_of (j := 1) (v := .int .u32 0) hb2 rfl
  have e2 := cell_of (j := 2) (v := .bool false) hb2 rfl
  have e3 := cell_of (j := 3) (v := .int .i64 0) hb2 rfl
  have e4 := cell_of (j := 4) (v := .slice none 0 0) hb2 rfl
  have e5 := cell_of (j := 5) (v := .slice none 0 0) hb2 rfl
  have e6 := cell_of (j := 6) (v := .int .i64 0) hb2 rfl
  have e7 := cell_of (j := 7) (v := .slice none 0 0) hb2 rfl
  have fz : ∀ j, w1.frozen? ⟨w.heap.size + 1, j, none⟩ = false := fun j => frozen_of_row _ _ _ _ _ hb2
  have HP1 : Hid (Byt w1 p E) := HP.out.below hb1
  have HO : Hid (w1.heap[w.heap.size + 1]? = some (.cells #[.int .u8 0, .int .u32 0, .bool false, .int .i64 0, .slice none 0 0, .slice none 0 0, .int .i64 0, .slice none 0 0] 31 (0, 0))) := hb2
  clear hL1 hL2 hap hg hrow hb hb1 hb2 hl1 hl2 HP g0 g1 g2 g3 g4 g5 g6 g7
  have hG1 : G < w1.heap.size := by omega
  have hR1 : w.heap.size + 1 < w1.heap.size := by omega
  go_wp2_with fail
  refine wp_loop_rounds 2 ?_
  rw [rounds_succ]
  go_wp2_with fail
  obtain ⟨W, eW⟩ : ∃ W, Hid (W = ((w1.alloc (Obj.cells #[.int .u8 2, .int .u32 (n : Int), .bool true, .int .i64 0, .slice (some ⟨g, 0, none⟩) (m + N) (m + N), .slice ap N N, .int .i64 (m : Int), .slice none 0 0] 31)).alloc
    (Obj.cells #[.int .u8 cl, .int .u32 num, .bool con, .int .i64 off, .slice p N c1, .slice q M c2, .int .i64 co, .slice none 0 0] 31)).drew) := ⟨_, rfl⟩
  obtain ⟨w2, hcp, HR2, hbb, hgr⟩ := run_copy_full W 3 ap p N N N c1 g m (m + N) (L1 ++ L2 ++ List.replicate N 0) E (by rw [eW.out]; exact HR1.out.box2 _ _) (by simp; have := em.out; simp at this; omega) HE.out (Nat.le_refl _)
    (by rw [eW.out]; exact HP1.out.box2 _ _) (fun h => HAP.out (by have := HE.out; omega)) (by have := HE.out; omega)
  rw [eW.out] at hcp hgr
  obtain ⟨b1, b2, b3⟩ := box2_world w1 _ _ (w.heap.size + 1) hgs hR1 (by omega) hgr
  go_region
  have b4 := b2.trans HO.out
  have f0 := cell_of (j := 0) (v := .int .u8 2) b1 rfl
  have f1 := cell_of (j := 1) (v := .int .u32 (n : Int)) b1 rfl
  have f2 := cell_of (j := 2) (v := .bool true) b1 rfl
  have f3 := cell_of (j := 3) (v := .int .i64 0) b1 rfl
  have f4 := cell_of (j := 4) (v := .slice (some ⟨g, 0, none⟩) (m + N) (m + N)) b1 rfl
  have f5 := cell_of (j := 5) (v := .slice ap N N) b1 rfl
  have f6 := cell_of (j := 6) (v := .int .i64 (m : Int)) b1 rfl
  have f7 := cell_of (j := 7) (v := .slice none 0 0) b1 rfl
  have fr1 : ∀ j, w2.frozen? ⟨w1.heap.size, j, none⟩ = false := fun j => frozen_of_row _ _ _ _ _ b1
  have r0 := cell_of (j := 0) (v := .int .u8 0) b4 rfl
  have r1 := cell_of (j := 1) (v := .int .u32 0) b4 rfl
  have r2 := cell_of (j := 2) (v := .bool false) b4 rfl
  have r3 := cell_of (j := 3) (v := .int .i64 0) b4 rfl
  have r4 := cell_of (j := 4) (v := .slice none 0 0) b4 rfl
  have r5 := cell_of (j := 5) (v := .slice none 0 0) b4 rfl
  have r6 := cell_of (j := 6) (v := .int .i64 0) b4 rfl
  have r7 := cell_of (j := 7) (v := .slice none 0 0) b4 rfl
  have fr2 : ∀ j, w2.frozen? ⟨w.heap.size + 1, j, none⟩ = false := fun j => frozen_of_row _ _ _ _ _ b4
  have hne1 : w.heap.size + 1 ≠ w1.heap.size := by omega
  have hne2 : w1.heap.size ≠ w.heap.size + 1 := by omega
  have HB2 : Hid (Below w.heap.size w w2) := hbb w.heap.size w (by rw [eW.out]; exact ((HB1.out.alloc (by omega) _).alloc (by simp; omega) _).drew) (by omega)
  have ES : Hid (splice (L1 ++ L2 ++ List.replicate N 0) m E = L1 ++ L2 ++ E) := splice_tail _ E N m em.out HE.out
  clear hbb eW hgr b1 b2 b4 HO hcp e0 e1 e2 e3 e4 e5 e6 e7 k0 k1 k2 k3 k4 k5 k6 k7 fz HP1 HR1 HB1
  go_wp2_with fail
  rw [rounds_succ]
  go_wp2_with fail
  refine bodyPost_ret (v := .agg #[.int .u8 2, .int .u32 n, .bool true, .int .i64 0, .slice (some ⟨g, 0, none⟩) (m + N) (m + N), .slice ap N N, .int .i64 m, .slice (some ⟨G, 0, none⟩) 1 1]) ?_ rfl ?_
  · simp [results, Try.results14, go_sem, r0, r1, r2, r3, r4, r5, r6, r7]
    try rfl
  refine ⟨L1, L2, g, ap, HL1.out, HL2.out, by rw [em.out]; exact HAP.out, by rw [em.out], by omega, ?_, ?_⟩
  · rw [em.out]
    have r := HR2.out
    rw [ES.out] at r
    have hne : g ≠ w.heap.size + 1 := by omega
    refine Row.aside (Row.aside (Row.aside (Row.aside (Row.aside (Row.aside (Row.aside (Row.aside (Row.aside r (by omega)) hne) hne) hne) hne) hne) hne) hne) hne
  · exact ((((((((HB2.out.setCell (by simp; omega) _).setCell (by simp) _).setCell (by simp) _).setCell (by simp) _).setCell (by simp) _).setCell (by simp) _).setCell (by simp) _).setCell (by simp) _).setCell (by simp) _
end Go.Proofs.Qxb6604565a
