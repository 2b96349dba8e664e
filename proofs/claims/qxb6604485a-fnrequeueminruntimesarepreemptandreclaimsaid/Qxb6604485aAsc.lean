import Derived.Test.Qxb6604485aRow
namespace Go.Proofs.Qxb6604485a
open Go.RowKit
open Go.Sort (Holds grow putRow putCells)
set_option linter.unusedVariables false

/-- sort.Slice by the closure of ascending: the row is sorted, nothing else turns. -/
theorem sort_any (w : World) (g cap Bs : Nat) (zs : List Int) (hr : Row 49 w g cap zs) (hl : zs.length ≤ 1048576) (hne : g ≠ Bs) (hBs : w.cell? ⟨Bs, 0, none⟩ = some (.slice (some ⟨g, 0, none⟩) zs.length cap)) :
    Calls Try.prog 44 #[.iface 46 (.slice (some ⟨g, 0, none⟩) zs.length cap), .func (.func 45) #[] #[.pointer (some ⟨Bs, 0, none⟩)]] w fun e w' =>
      e = .returned (.tuple #[]) ∧ Row 49 w' g cap (srt zs) ∧ w.grownBy w' (some g) := by
  by_cases h2 : 2 ≤ zs.length
  · have h := sort_two g cap Bs zs.toArray (by simpa using h2) (by simp; omega) w hr.holds hr.lt hne (by simpa using hBs)
    simp only [List.size_toArray] at h
    refine h.mono ?_
    rintro e w' ⟨rfl, n, os, rfl⟩
    exact ⟨rfl, hr.sorted n os (srt zs) (srt_length zs), grownBy_sortedI _⟩
  · refine (sort_tiny _ zs.length cap Bs (by omega) w).mono ?_
    rintro e w' ⟨rfl, os, rfl⟩
    rw [srt_one zs (by omega)]
    exact ⟨rfl, hr.grew os, grownBy_grow _ _ _⟩

theorem asc_push {w1 wr : World} {g cap k n : Nat} {us ts : List Int} (hr : Row 49 wr g cap us) (hc : ∀ j, k ≤ j → j < n → wr.cell? ⟨g, j, none⟩ = some (.int .i64 (ts.getD j 0))) (hg : w1.grownBy wr (some g)) (x : Int) (o : Obj) (hl : us.length < cap) (hk : us.length ≤ k) :
    Row 49 ((wr.alloc o).setCell ⟨g, us.length, none⟩ (.int .i64 x)) g cap (us ++ [x]) ∧ (∀ j, k + 1 ≤ j → j < n → ((wr.alloc o).setCell ⟨g, us.length, none⟩ (.int .i64 x)).cell? ⟨g, j, none⟩ = some (.int .i64 (ts.getD j 0))) ∧ w1.grownBy ((wr.alloc o).setCell ⟨g, us.length, none⟩ (.int .i64 x)) (some g) := by
  refine ⟨(hr.grown (grownBy_alloc' wr o none) (by simp)).push x hl, fun j h1 h2 => ?_, grownBy_trans (grownBy_trans hg (grownBy_alloc' wr o _)) (grownBy_setCell _ _ _ _)⟩
  rw [← hc j (by omega) h2, World.cell?_setCell_other _ _ _ _ (by intro h; have := congrArg Addr.off h; simp only at this; omega)]
  exact World.cell?_of_block (w := wr) (Below.heap_alloc wr o g hr.lt)
theorem last_eq (us : List Int) (x : Int) (h : 0 < us.length) : us.getLast? = some x ↔ us.getD (us.length - 1) 0 = x := by
  rw [List.getLast?_eq_getElem?]
  simp [List.getD, show us.length - 1 < us.length by omega]

set_option maxHeartbeats 2000000 in
set_option maxRecDepth 100000 in
theorem ascending_any (w : World) (g cap : Nat) (zs : List Int) (hr : Row 49 w g cap zs) (hl : zs.length ≤ 1048576) (hcap : cap ≤ maxLen) :
    Calls Try.prog 39 #[.slice (some ⟨g, 0, none⟩) zs.length cap] w fun e w' =>
      e = .returned (.slice (some ⟨g, 0, none⟩) (asc zs).length cap) ∧ Row 49 w' g cap (asc zs) ∧ w.grownBy w' (some g) := by
  obtain ⟨i0, hi, hz0⟩ := Option.map_eq_some_iff.1 Try.info49
  simp only [Prod.mk.injEq] at hz0
  have hi1 : i0.size = 1 := hz0.1
  have hgl := hr.lt
  have hle := hr.le
  unfold maxLen at hcap
  have hS := fun (W : World) (h1 : Row 49 W g cap zs) (h2 : W.cell? ⟨w.heap.size, 0, none⟩ = some (.slice (some ⟨g, 0, none⟩) zs.length cap)) => sort_any W g cap w.heap.size zs h1 hl (by omega) h2
  obtain ⟨n, en⟩ : ∃ n, Hid (n = zs.length) := ⟨_, rfl⟩
  have HR : Hid (Row 49 w g cap zs) := hr
  simp only [← en.out] at hS
  rw [← en.out] at hl hle ⊢
  clear hr hz0
  go_enter Try.func39, Try.ntmps39
  go_wp2_with fail
  have hr1 : Row 49 (w.alloc (.cells #[.slice (some ⟨g, 0, none⟩) n cap] 46)) g cap zs := HR.out.grown (grownBy_alloc' _ _ none) (by simp)
  refine (hS _ hr1 (by simp)).mono ?_
  clear hS HR hr1
  rintro e w1 ⟨rfl, hr2, hg2⟩
  have hbox : w1.cell? ⟨w.heap.size, 0, none⟩ = some (.slice (some ⟨g, 0, none⟩) n cap) := by
    have e1 : w1.heap[w.heap.size]? = some (.cells #[.slice (some ⟨g, 0, none⟩) n cap] 46 (0, 0)) := by
      rw [hg2.block w.heap.size (by simp) (by simp; omega)]
      exact heap_alloc_new w _
    exact cell_of e1 rfl
  have HG : Hid (w.grownBy w1 (some g)) := grownBy_trans (grownBy_alloc' w _ _) hg2
  have hn : n = (srt zs).length := by rw [srt_length]; exact en.out
  have EN : Hid (n = (srt zs).length) := hn
  clear hn hg2
  obtain ⟨ts, et⟩ : ∃ ts, Hid (ts = srt zs) := ⟨_, rfl⟩
  have EA : Hid (asc zs = dd ts) := by show asc zs = dd ts; rw [et.out]; rfl
  rw [← et.out] at hr2
  have EN' : Hid (n = ts.length) := by show _ = _; rw [et.out]; exact EN.out
  clear EN
  have HR2 : Hid (Row 49 w1 g cap ts) := hr2
  clear hr2
  go_wp2
  go_loopw [3, 14] (fun out i wr => ∃ (k : Nat) (us : List Int), k ≤ n ∧ i = .int .i64 k ∧ us = dd (ts.take k) ∧ out = .slice (some ⟨g, 0, none⟩) us.length cap ∧ Row 49 wr g cap us ∧ (∀ j, k ≤ j → j < n → wr.cell? ⟨g, j, none⟩ = some (.int .i64 (ts.getD j 0))) ∧ w1.grownBy wr (some g)) (fun _ i _ => n - (intOf i).toNat)
  case atStart => exact ⟨0, [], Nat.zero_le _, rfl, rfl, rfl, HR2.out.cutTo [] (by simp) (by simp), fun j _ h2 => HR2.out.cell j (by rw [← EN'.out]; exact h2), World.grownBy.refl _ _⟩
  case round =>
    obtain ⟨k, us, hk, rfl, hus, rfl, hrow, hrest, hgr⟩ := hrel
    clear hbox HR2
    have hul : us.length ≤ k := by rw [hus]; have := dd_length (ts.take k); simp at this; omega
    have HU : Hid (us = dd (ts.take k)) := hus
    clear hus
    by_cases hlt : k < n
    · have hck := hrest k (Nat.le_refl _) hlt
      have hus1 : Hid (dd (ts.take (k + 1)) = step us (ts.getD k 0)) := by show _ = _; rw [dd_take_succ ts k (by rw [← EN'.out]; exact hlt), HU.out]
      obtain ⟨x, ex⟩ : ∃ x, Hid (x = ts.getD k 0) := ⟨_, rfl⟩
      rw [← ex.out] at hck hus1
      have P := fun o => asc_push hrow hrest hgr x o (by omega) hul
      have HP : Hid (∀ o, Row 49 ((wr.alloc o).setCell ⟨g, us.length, none⟩ (.int .i64 x)) g cap (us ++ [x]) ∧ (∀ j, k + 1 ≤ j → j < n → ((wr.alloc o).setCell ⟨g, us.length, none⟩ (.int .i64 x)).cell? ⟨g, j, none⟩ = some (.int .i64 (ts.getD j 0))) ∧ w1.grownBy ((wr.alloc o).setCell ⟨g, us.length, none⟩ (.int .i64 x)) (some g)) := P
      clear P
      have HRow : Hid (Row 49 wr g cap us) := hrow
      have HRest : Hid (∀ j, k ≤ j → j < n → wr.cell? ⟨g, j, none⟩ = some (.int .i64 (ts.getD j 0))) := hrest
      have HGr : Hid (w1.grownBy wr (some g)) := hgr
      clear hrow hrest hgr
      by_cases hk0 : k = 0
      · have hu0 : us = [] := by cases us with | nil => rfl | cons a r => simp at hul; omega
        subst hk0
        subst hu0
        go_wp2_with (at_builtin; refine wpList_append_one _ rfl _ _ 46 rfl 49 i0 Try.underlying46 hi hi1 g cap [] 0 rfl rfl ?hrow wr.heap.size 1 x rfl ?hv ?hroom ?_)
        case hrow => exact HRow.out.grown (grownBy_alloc' wr _ none) (by simp)
        case hv => simp
        case hroom => simp; omega
        go_wp2
        go_roundw
        case rel =>
          obtain ⟨q1, q2, q3⟩ := HP.out (.cells #[.int .i64 x] 49)
          refine ⟨1, [x], by omega, rfl, ?_, rfl, q1, q2, q3⟩
          rw [hus1.out]; rfl
        case measure => simp [intOf]; omega
      · have hup : 0 < us.length := by have h := dd_take_pos ts k (by rw [← EN'.out]; exact hlt) (by omega); rw [← HU.out] at h; exact h
        have hcl : wr.cell? ⟨g, us.length - 1, none⟩ = some (.int .i64 (us.getD (us.length - 1) 0)) := HRow.out.cell _ (by omega)
        have HL : Hid (us.getLast? = some x ↔ us.getD (us.length - 1) 0 = x) := last_eq us x hup
        obtain ⟨y, ey⟩ : ∃ y, Hid (y = us.getD (us.length - 1) 0) := ⟨_, rfl⟩
        rw [← ey.out] at hcl HL
        have hk0' : ((k : Int) == 0) = false := by simp; omega
        clear hk0
        by_cases hxy : x = y
        · have hb : (x != y) = false := by simp [hxy]
          have HXY : Hid (x = y) := hxy
          clear hxy
          go_wp2
          go_roundw
          case rel =>
            refine ⟨k + 1, us, by omega, by go_num, ?_, rfl, HRow.out, fun j h1 h2 => HRest.out j (by omega) h2, HGr.out⟩
            rw [hus1.out, step, if_pos (HL.out.2 HXY.out.symm)]
          case measure => simp [intOf]; omega
        · have hb : (x != y) = true := by simp [hxy]
          have HXY : Hid (¬ x = y) := hxy
          clear hxy
          go_wp2_with (at_builtin; refine wpList_append_one _ rfl _ _ 46 rfl 49 i0 Try.underlying46 hi hi1 g cap us us.length rfl rfl ?hrow2 wr.heap.size 1 x rfl ?hv2 ?hroom2 ?_)
          case hrow2 => exact HRow.out.grown (grownBy_alloc' wr _ none) (by simp)
          case hv2 => simp
          case hroom2 => omega
          go_wp2
          go_roundw
          case rel =>
            obtain ⟨q1, q2, q3⟩ := HP.out (.cells #[.int .i64 x] 49)
            refine ⟨k + 1, us ++ [x], by omega, by go_num, ?_, by simp, q1, q2, q3⟩
            rw [hus1.out, step, if_neg (fun h => HXY.out (HL.out.1 h).symm)]
          case measure => simp [intOf]; omega
    · go_wp2
      go_ret
      have e1 : us = asc zs := by
        rw [EA.out, HU.out, List.take_of_length_le (by rw [← EN'.out]; omega)]
      rw [← e1]
      exact ⟨rfl, hrow, grownBy_trans HG.out hgr⟩
end Go.Proofs.Qxb6604485a
