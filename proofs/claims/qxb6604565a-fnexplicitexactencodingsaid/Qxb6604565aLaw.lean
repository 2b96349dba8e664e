import Derived.Test.Qxb6604565aExpl
namespace Go.Proofs.Qxb6604565a
open Go.RowKit
set_option linter.unusedVariables false

set_option maxHeartbeats 2000000 in
set_option maxRecDepth 100000 in
theorem bytes_any (w : World) (v0 v1 v2 v3 v4 v7 : Value) (a5 a6 : Option Addr) (l5 c5 l6 c6 : Nat) :
    Calls Try.prog 5 #[v0, v1, v2, v3, v4, .slice a5 l5 c5, .slice a6 l6 c6, v7] w fun e w' => (∃ b, e = .returned (.bool b)) ∧ w = w' := by
  go_enter Try.func5, Try.ntmps5
  go_wp2
  all_goals (go_ret; exact ⟨⟨_, rfl⟩, rfl⟩)

set_option maxHeartbeats 2000000 in
set_option maxRecDepth 100000 in
theorem law_long (w : World) (n cl num off co : Int) (con : Bool) (a5 a6 : Option Addr) (l5 c5 l6 c6 : Nat) (h : ¬ (l5 ≤ 1048576 ∧ l6 ≤ 1048576 ∧ l5 + l6 ≤ 1048576)) :
    Calls Try.prog 3 #[.int .u32 n, .int .u8 cl, .int .u32 num, .bool con, .int .i64 off, .slice a5 l5 c5, .slice a6 l6 c6, .int .i64 co] w fun e w' => e = .returned (.bool true) ∧ Below w.heap.size w w' := by
  go_enter Try.func3, Try.ntmps3
  go_wp2_with fail
  refine (bytes_any w _ _ _ _ _ _ _ _ _ _ _ _).mono ?_
  rintro e w' ⟨⟨b, rfl⟩, rfl⟩
  cases b
  · go_wp2_with fail
    go_ret
    exact ⟨rfl, Below.refl _ _⟩
  · by_cases h5 : l5 ≤ 1048576
    · by_cases h6 : l6 ≤ 1048576
      · have h7 : 1048576 < l5 + l6 := by omega
        go_wp2_with fail
        go_ret
        exact ⟨rfl, Below.refl _ _⟩
      · go_wp2_with fail
        go_ret
        exact ⟨rfl, Below.refl _ _⟩
    · go_wp2_with fail
      go_ret
      exact ⟨rfl, Below.refl _ _⟩

/-- what stands in the world behind 'Explicit': the two copies, the encoding, the child, the answer's box -/
def Stand (w : World) (p5 p6 : Option Addr) (E C H : List Int) (g G X c : Nat) (oG oX : Obj) (W : World) : Prop :=
  Byt W p5 E ∧ Byt W p6 C ∧ Row 5 W g c H ∧ W.heap[G]? = some oG ∧ W.heap[X]? = some oX ∧ Below w.heap.size w W
theorem Stand.below {w : World} {p5 p6 : Option Addr} {E C H : List Int} {g G X c : Nat} {oG oX : Obj} {W W' : World} (h : Stand w p5 p6 E C H g G X c oG oX W) (hb : Below W.heap.size W W') : Stand w p5 p6 E C H g G X c oG oX W' := by
  obtain ⟨h1, h2, h3, h4, h5, h6⟩ := h
  exact ⟨h1.below hb, h2.below hb, h3.below hb h3.lt, (hb.block G (Array.getElem?_eq_some_iff.1 h4).1).trans h4, (hb.block X (Array.getElem?_eq_some_iff.1 h5).1).trans h5, h6.trans (hb.mono h6.size)⟩
theorem cat_l (w : World) (a b : Option Addr) (c d n m : Nat) (xs ys : List Int) (hx : xs.length = n) (hy : ys.length = m) (hn : n ≤ 2097152) (hm : m ≤ 2097152) (h1 : Byt w a xs) (h2 : Byt w b ys) :
    Calls Try.prog 8 #[.slice a n c, .slice b m d] w fun e w' => e = .returned (.slice (some ⟨w.heap.size, 0, none⟩) (n + m) (n + m)) ∧ Row 5 w' w.heap.size (n + m) (xs ++ ys) ∧ Below w.heap.size w w' := by
  subst hx
  subst hy
  have e := cat_any w a b c d xs ys hn hm h1 h2
  rw [List.length_append] at e
  exact e
theorem eq_by (w : World) (a b : Option Addr) (n c d : Nat) (hn : n ≤ 2097152) (h : ∃ zs : List Int, zs.length = n ∧ Byt w a zs ∧ Byt w b zs) :
    Calls Try.prog 11 #[.slice a n c, .slice b n d] w fun e w' => e = .returned (.bool true) ∧ Below w.heap.size w w' := by
  obtain ⟨zs, hz, h1, h2⟩ := h
  refine (eq_same w a b n c d zs hz hn h1 h2).mono ?_
  rintro e w' ⟨rfl, nq, rfl⟩
  exact ⟨rfl, ⟨rfl, rfl, rfl, Nat.le_refl _, fun _ _ => rfl⟩⟩
theorem byt_mid {w : World} {t : TypeId} {g c m : Nat} {ap : Option Addr} {H E : List Int} (h : Row t w g c (H ++ E)) (hm : H.length = m) (ha : 0 < E.length → ap = some ⟨g, m, none⟩) : Byt w ap E := by
  intro h0
  refine ⟨g, m, ha h0, h.lt, fun j hj => ?_⟩
  subst hm
  rw [h.cell (H.length + j) (by simp; omega)]
  rw [List.getD_eq_getElem?_getD, List.getD_eq_getElem?_getD, List.getElem?_append_right (by omega), Nat.add_sub_cancel_left]
theorem clone_l (w : World) (a : Option Addr) (cap l : Nat) (zs : List Int) (hz : zs.length = l) (hlen : l ≤ 1048576) (hs : Byt w a zs) (hn : a = none → zs = [] ∧ cap = 0) :
    Calls Try.prog 6 #[.slice a l cap] w fun e w' => ∃ a', e = .returned (.slice a' l l) ∧ Byt w' a' zs ∧ Below w.heap.size w w' := by
  subst hz
  exact clone_any w a cap zs hlen hs hn

set_option maxHeartbeats 8000000 in
set_option maxRecDepth 100000 in
theorem law_main (w : World) (n : Nat) (cl num off co : Int) (con : Bool) (a5 a6 : Option Addr) (l5 c5 l6 c6 : Nat) (E C : List Int) (hn2 : n < 4294967296) (hE : E.length = l5) (hC : C.length = l6) (h5 : l5 ≤ 1048576) (h6 : l6 ≤ 1048576) (h7 : l5 + l6 ≤ 1048576)
    (hb5 : Byt w a5 E) (hb6 : Byt w a6 C) (hn5 : a5 = none → E = [] ∧ c5 = 0) (hn6 : a6 = none → C = [] ∧ c6 = 0) :
    Calls Try.prog 3 #[.int .u32 n, .int .u8 cl, .int .u32 num, .bool con, .int .i64 off, .slice a5 l5 c5, .slice a6 l6 c6, .int .i64 co] w fun e w' => e = .returned (.bool true) ∧ Below w.heap.size w w' := by
  have HN : Hid ((a5 = none → E = [] ∧ c5 = 0) ∧ (a6 = none → C = [] ∧ c6 = 0)) := ⟨hn5, hn6⟩
  have HB5 : Hid (Byt w a5 E) := hb5
  have HB6 : Hid (Byt w a6 C) := hb6
  have HE : Hid (E.length = l5) := hE
  have HC : Hid (C.length = l6) := hC
  clear hn5 hn6 hb5 hb6 hE hC
  go_enter Try.func3, Try.ntmps3
  go_wp2_with fail
  refine (bytes_any w _ _ _ _ _ _ _ _ _ _ _ _).mono ?_
  rintro e w' ⟨⟨b, rfl⟩, rfl⟩
  cases b
  · go_wp2_with fail
    go_ret
    exact ⟨rfl, Below.refl _ _⟩
  go_wp2_with fail
  refine (clone_l w a5 c5 l5 E HE.out h5 HB5.out HN.out.1).mono ?_
  rintro e w1 ⟨p5, rfl, hp5, hw1⟩
  have HB6' : Hid (Byt w1 a6 C) := HB6.out.below hw1
  have HP5 : Hid (Byt w1 p5 E) := hp5
  have HW1 : Hid (Below w.heap.size w w1) := hw1
  clear hp5 hw1 HB5 HB6
  go_wp2_with fail
  refine (clone_l w1 a6 c6 l6 C HC.out h6 HB6'.out HN.out.2).mono ?_
  rintro e w2 ⟨p6, rfl, hp6, hw2⟩
  have HP5' : Hid (Byt w2 p5 E) := HP5.out.below hw2
  have HP6 : Hid (Byt w2 p6 C) := hp6
  have HW2 : Hid (Below w.heap.size w w2) := HW1.out.trans (hw2.mono HW1.out.size)
  clear hp6 hw2 HB6' HP5 HW1 HN
  go_wp2_with fail
  refine (expl_any _ n l5 l6 l5 l6 cl num off co con p5 p6 E hn2 h5 HE.out (HP5'.out.below ((Below.refl _ _).alloc (Nat.le_refl _) _))).mono ?_
  rintro e w3 ⟨L1, L2, g, ap, G, hL1, hL2, hap, rfl, hrow, hG, hw3⟩
  have hw3' : Below w2.heap.size w2 w3 := ((Below.refl _ _).alloc (Nat.le_refl _) _).trans (hw3.mono (by simp))
  have HP5 : Hid (Byt w3 p5 E) := HP5'.out.below hw3'
  have HP6' : Hid (Byt w3 p6 C) := HP6.out.below hw3'
  have HW3 : Hid (Below w.heap.size w w3) := HW2.out.trans (hw3'.mono HW2.out.size)
  have HL1 : Hid (IdentOf n L1) := hL1
  have HL2 : Hid (LenOf l5 L2) := hL2
  have hl1 := hL1.len hn2
  have hl2 := hL2.len (show l5 ≤ 2097152 by omega)
  obtain ⟨m, em⟩ : ∃ m, Hid ((L1 ++ L2).length = m) := ⟨_, rfl⟩
  have hm : m ≤ 10 := by rw [← em.out, List.length_append]; omega
  rw [em.out] at hap hrow ⊢
  have HR3 : Hid (Row 5 w3 g (m + l5) ((L1 ++ L2) ++ E)) := hrow
  have HG3 : Hid (w3.heap[G]? = some (.cells (elemCells cl num con off p5 p6 l5 l5 l6 l6 co) 31 (0, 0))) := hG
  have HAP : Hid (0 < l5 → ap = some ⟨g, m, none⟩) := hap
  have HS3 : Hid (Stand w p5 p6 E C ((L1 ++ L2) ++ E) g G w3.heap.size (m + l5) (.cells (elemCells cl num con off p5 p6 l5 l5 l6 l6 co) 31 (0, 0))
      (.cells #[.int .u8 2, .int .u32 (n : Int), .bool true, .int .i64 0, .slice (some ⟨g, 0, none⟩) (m + l5) (m + l5), .slice ap l5 l5, .int .i64 (m : Int), .slice (some ⟨G, 0, none⟩) 1 1] 31)
      (w3.alloc (.cells #[.int .u8 2, .int .u32 (n : Int), .bool true, .int .i64 0, .slice (some ⟨g, 0, none⟩) (m + l5) (m + l5), .slice ap l5 l5, .int .i64 (m : Int), .slice (some ⟨G, 0, none⟩) 1 1] 31))) := by
    have hbx : Below w3.heap.size w3 (w3.alloc (.cells #[.int .u8 2, .int .u32 (n : Int), .bool true, .int .i64 0, .slice (some ⟨g, 0, none⟩) (m + l5) (m + l5), .slice ap l5 l5, .int .i64 (m : Int), .slice (some ⟨G, 0, none⟩) 1 1] 31)) := (Below.refl _ _).alloc (Nat.le_refl _) _
    exact ⟨HP5.out.below hbx, HP6'.out.below hbx, HR3.out.below hbx HR3.out.lt, (hbx.block G (Array.getElem?_eq_some_iff.1 HG3.out).1).trans HG3.out, heap_alloc_new _ _, HW3.out.trans (hbx.mono HW3.out.size)⟩
  clear hL1 hL2 hap hrow hG hw3 hw3' hl1 hl2 HP5' HP6 HW2 HP5 HP6' HR3 HG3 HW3
  go_wp2_with fail
  refine (ident_any _ n hn2).mono ?_
  rintro e w4 ⟨L1', g1, hL1', rfl, hrow4, hw4⟩
  obtain rfl := HL1.out.one hL1'
  have HS4 := HS3.out.below hw4
  have HR4 : Hid (Row 5 w4 g1 L1.length L1) := hrow4
  have HH4 : Hid (Stand w p5 p6 E C ((L1 ++ L2) ++ E) g G w3.heap.size (m + l5) (.cells (elemCells cl num con off p5 p6 l5 l5 l6 l6 co) 31 (0, 0)) _ w4) := HS4
  clear hL1' hrow4 hw4 HS4 HS3
  go_wp2_with fail
  refine (len_any _ l5 (by omega)).mono ?_
  rintro e w5 ⟨L2', g2, hL2', rfl, hrow5, hw5⟩
  obtain rfl := HL2.out.one hL2'
  have HS5 := HH4.out.below hw5
  have HR5 : Hid (Row 5 w5 g2 L2.length L2) := hrow5
  have HR4' : Hid (Row 5 w5 g1 L1.length L1) := HR4.out.below hw5 HR4.out.lt
  have HH5 : Hid (Stand w p5 p6 E C ((L1 ++ L2) ++ E) g G w3.heap.size (m + l5) (.cells (elemCells cl num con off p5 p6 l5 l5 l6 l6 co) 31 (0, 0)) _ w5) := HS5
  clear hL2' hrow5 hw5 HS5 HH4 HR4
  have hx1 : L1.length ≤ 2097152 := by have := HL1.out.len hn2; omega
  have hx2 : L2.length ≤ 2097152 := by have := HL2.out.len (show l5 ≤ 2097152 by omega); omega
  go_wp2_with fail
  refine (cat_any _ _ _ _ _ L1 L2 hx1 hx2 HR4'.out.byt HR5.out.byt).mono ?_
  rintro e w6 ⟨rfl, hrow6, hw6⟩
  rw [em.out] at hrow6 ⊢
  have HS6 := HH5.out.below hw6
  have HR6 : Hid (Row 5 w6.drew w5.heap.size m (L1 ++ L2)) := hrow6.drew
  have hX := HS6.2.2.2.2.1
  have HH6 : Hid (Stand w p5 p6 E C ((L1 ++ L2) ++ E) g G w3.heap.size (m + l5) (.cells (elemCells cl num con off p5 p6 l5 l5 l6 l6 co) 31 (0, 0)) _ w6.drew) := HS6.below (Below.refl _ _).drew
  have x0 := cell_of (j := 0) (v := .int .u8 2) hX rfl
  have x1 := cell_of (j := 1) (v := .int .u32 (n : Int)) hX rfl
  have x2 := cell_of (j := 2) (v := .bool true) hX rfl
  have x3 := cell_of (j := 3) (v := .int .i64 0) hX rfl
  have x4 := cell_of (j := 4) (v := .slice (some ⟨g, 0, none⟩) (m + l5) (m + l5)) hX rfl
  have x5 := cell_of (j := 5) (v := .slice ap l5 l5) hX rfl
  have x6 := cell_of (j := 6) (v := .int .i64 (m : Int)) hX rfl
  have x7 := cell_of (j := 7) (v := .slice (some ⟨G, 0, none⟩) 1 1) hX rfl
  clear hrow6 hw6 HS6 HH5 HR5 HR4' hX
  go_wp2_with fail
  go_region_with (first
    | (go_at_call 8; refine (cat_l w6.drew _ _ _ _ m l5 (L1 ++ L2) E em.out HE.out (by omega) (by omega) HR6.out.byt HH6.out.1).mono ?_; rintro e w7 ⟨rfl, hrow7, hw7⟩; have HH7 : Hid (Stand w p5 p6 E C ((L1 ++ L2) ++ E) g G w3.heap.size (m + l5) (.cells (elemCells cl num con off p5 p6 l5 l5 l6 l6 co) 31 (0, 0)) _ w7) := HH6.out.below hw7; have HR7 : Hid (Row 5 w7 w6.heap.size (m + l5) ((L1 ++ L2) ++ E)) := hrow7; have y4 := cell_of (j := 4) (v := .slice (some ⟨g, 0, none⟩) (m + l5) (m + l5)) HH7.out.2.2.2.2.1 rfl; have y5 := cell_of (j := 5) (v := .slice ap l5 l5) HH7.out.2.2.2.2.1 rfl; have y6 := cell_of (j := 6) (v := .int .i64 (m : Int)) HH7.out.2.2.2.2.1 rfl; have y7 := cell_of (j := 7) (v := .slice (some ⟨G, 0, none⟩) 1 1) HH7.out.2.2.2.2.1 rfl; clear hrow7 hw7)
    | (go_at_call 11; refine (eq_by _ _ _ _ _ _ (by omega) ⟨E, HE.out, byt_mid HH8.out.2.2.1 em.out (by rw [HE.out]; exact HAP.out), HH8.out.1⟩).mono ?_; rintro e w9 ⟨rfl, hw9⟩; have HH9 : Hid (Stand w p5 p6 E C ((L1 ++ L2) ++ E) g G w3.heap.size (m + l5) (.cells (elemCells cl num con off p5 p6 l5 l5 l6 l6 co) 31 (0, 0)) _ w9) := HH8.out.below hw9; have u4 := cell_of (j := 4) (v := .slice (some ⟨g, 0, none⟩) (m + l5) (m + l5)) HH9.out.2.2.2.2.1 rfl; have u5 := cell_of (j := 5) (v := .slice ap l5 l5) HH9.out.2.2.2.2.1 rfl; have u6 := cell_of (j := 6) (v := .int .i64 (m : Int)) HH9.out.2.2.2.2.1 rfl; have u7 := cell_of (j := 7) (v := .slice (some ⟨G, 0, none⟩) 1 1) HH9.out.2.2.2.2.1 rfl; clear hw9)
    | (go_at_call 11; refine (eq_by _ _ _ _ _ _ (by omega) ⟨(L1 ++ L2) ++ E, by rw [List.length_append, em.out, HE.out], HH7.out.2.2.1.byt, HR7.out.byt⟩).mono ?_; rintro e w8 ⟨rfl, hw8⟩; have HH8 : Hid (Stand w p5 p6 E C ((L1 ++ L2) ++ E) g G w3.heap.size (m + l5) (.cells (elemCells cl num con off p5 p6 l5 l5 l6 l6 co) 31 (0, 0)) _ w8) := HH7.out.below hw8; have z4 := cell_of (j := 4) (v := .slice (some ⟨g, 0, none⟩) (m + l5) (m + l5)) HH8.out.2.2.2.2.1 rfl; have z5 := cell_of (j := 5) (v := .slice ap l5 l5) HH8.out.2.2.2.2.1 rfl; have z6 := cell_of (j := 6) (v := .int .i64 (m : Int)) HH8.out.2.2.2.2.1 rfl; have z7 := cell_of (j := 7) (v := .slice (some ⟨G, 0, none⟩) 1 1) HH8.out.2.2.2.2.1 rfl; clear hw8))
  all_goals have k0 := cell_of (j := 0) (v := .int .u8 cl) HH9.out.2.2.2.1 rfl
  all_goals have k1 := cell_of (j := 1) (v := .int .u32 num) HH9.out.2.2.2.1 rfl
  all_goals have k2 := cell_of (j := 2) (v := .bool con) HH9.out.2.2.2.1 rfl
  all_goals have k3 := cell_of (j := 3) (v := .int .i64 off) HH9.out.2.2.2.1 rfl
  all_goals have k4 := cell_of (j := 4) (v := .slice p5 l5 l5) HH9.out.2.2.2.1 rfl
  all_goals have k5 := cell_of (j := 5) (v := .slice p6 l6 l6) HH9.out.2.2.2.1 rfl
  all_goals have k6 := cell_of (j := 6) (v := .int .i64 co) HH9.out.2.2.2.1 rfl
  all_goals have k7 := cell_of (j := 7) (v := .slice none 0 0) HH9.out.2.2.2.1 rfl
  all_goals clear x0 x1 x2 x3 x4 x5 x6 x7 y4 y5 y6 y7 z4 z5 z6 z7 u4 u5 u6 HH6 HH7 HH8 HR6 HR7
  · go_wp2_with fail
    refine (eq_by w9 _ _ _ _ _ (by omega) ⟨E, HE.out, HH9.out.1, HH9.out.1⟩).mono ?_
    rintro e w10 ⟨rfl, hw10⟩
    have HH10 : Hid (Stand w p5 p6 E C ((L1 ++ L2) ++ E) g G w3.heap.size (m + l5) (.cells (elemCells cl num con off p5 p6 l5 l5 l6 l6 co) 31 (0, 0)) _ w10) := HH9.out.below hw10
    have q5 := cell_of (j := 5) (v := .slice p6 l6 l6) HH10.out.2.2.2.1 rfl
    have q6 := cell_of (j := 6) (v := .int .i64 co) HH10.out.2.2.2.1 rfl
    have q7 := cell_of (j := 7) (v := .slice none 0 0) HH10.out.2.2.2.1 rfl
    clear hw10 HH9 k0 k1 k2 k3 k4 k5 k6 k7 u7
    go_wp2_with fail
    refine (eq_by w10 _ _ _ _ _ (by omega) ⟨C, HC.out, HH10.out.2.1, HH10.out.2.1⟩).mono ?_
    rintro e w11 ⟨rfl, hw11⟩
    have HH11 : Hid (Stand w p5 p6 E C ((L1 ++ L2) ++ E) g G w3.heap.size (m + l5) (.cells (elemCells cl num con off p5 p6 l5 l5 l6 l6 co) 31 (0, 0)) _ w11) := HH10.out.below hw11
    have t6 := cell_of (j := 6) (v := .int .i64 co) HH11.out.2.2.2.1 rfl
    have t7 := cell_of (j := 7) (v := .slice none 0 0) HH11.out.2.2.2.1 rfl
    clear hw11 HH10 q5 q6 q7
    go_wp2_with fail
    go_ret
    exact ⟨by first | rfl | simp, HH11.out.2.2.2.2.2⟩
  · go_wp2_with fail
    refine (eq_by w9 _ _ _ _ _ (by omega) ⟨E, HE.out, HH9.out.1, HH9.out.1⟩).mono ?_
    rintro e w10 ⟨rfl, hw10⟩
    have HH10 : Hid (Stand w p5 p6 E C ((L1 ++ L2) ++ E) g G w3.heap.size (m + l5) (.cells (elemCells cl num con off p5 p6 l5 l5 l6 l6 co) 31 (0, 0)) _ w10) := HH9.out.below hw10
    have q5 := cell_of (j := 5) (v := .slice p6 l6 l6) HH10.out.2.2.2.1 rfl
    have q6 := cell_of (j := 6) (v := .int .i64 co) HH10.out.2.2.2.1 rfl
    have q7 := cell_of (j := 7) (v := .slice none 0 0) HH10.out.2.2.2.1 rfl
    clear hw10 HH9 k0 k1 k2 k3 k4 k5 k6 k7 u7
    go_wp2_with fail
    refine (eq_by w10 _ _ _ _ _ (by omega) ⟨C, HC.out, HH10.out.2.1, HH10.out.2.1⟩).mono ?_
    rintro e w11 ⟨rfl, hw11⟩
    have HH11 : Hid (Stand w p5 p6 E C ((L1 ++ L2) ++ E) g G w3.heap.size (m + l5) (.cells (elemCells cl num con off p5 p6 l5 l5 l6 l6 co) 31 (0, 0)) _ w11) := HH10.out.below hw11
    have t6 := cell_of (j := 6) (v := .int .i64 co) HH11.out.2.2.2.1 rfl
    have t7 := cell_of (j := 7) (v := .slice none 0 0) HH11.out.2.2.2.1 rfl
    clear hw11 HH10 q5 q6 q7
    go_wp2_with fail
    go_ret
    exact ⟨by first | rfl | simp, HH11.out.2.2.2.2.2⟩
end Go.Proofs.Qxb6604565a
