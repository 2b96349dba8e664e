import Derived.Test.Qxb6604485aOpen
namespace Go.Proofs.Qxb6604485a
open Go.RowKit
set_option linter.unusedVariables false

/-! ### the plain part: one number put into a strictly ascending list -/
theorem insert_asc {us : List Int} {x : Int} {j : Nat} (h : Asc us) (hj : j ≤ us.length) (hlo : ∀ i, i < j → us.getD i 0 < x) (hhi : j < us.length → x < us.getD j 0) : Asc (us.take j ++ x :: us.drop j) := by
  have h' : (us.take j ++ us.drop j).Pairwise (· < ·) := by rw [List.take_append_drop]; exact h
  obtain ⟨p1, p2, p3⟩ := List.pairwise_append.1 h'
  have m1 : ∀ a ∈ us.take j, a < x := by
    intro a ha
    obtain ⟨i, hi, e⟩ := mem_getD ha
    have hi' : i < j := by simp at hi; omega
    have := hlo i hi'
    rw [← e]
    simpa [hi'] using this
  have m2 : ∀ a ∈ us.drop j, x < a := by
    intro a ha
    obtain ⟨i, hi, e⟩ := mem_getD ha
    have hi' : j + i < us.length := by simp at hi; omega
    have h1 := hhi (by omega)
    have e' : us.getD (j + i) 0 = a := by rw [← e]; simp [hi']
    by_cases hi0 : i = 0
    · subst hi0; rw [← e']; simpa using h1
    · have := asc_get h (show j < j + i by omega) hi'
      omega
  refine List.pairwise_append.2 ⟨p1, List.pairwise_cons.2 ⟨m2, p2⟩, fun a ha b hb => ?_⟩
  rcases List.mem_cons.1 hb with rfl | hb
  · exact m1 a ha
  · exact p3 a ha b hb
theorem insert_mem (us : List Int) (x : Int) (j : Nat) (a : Int) : a ∈ us.take j ++ x :: us.drop j ↔ a = x ∨ a ∈ us := by
  have : a ∈ us ↔ a ∈ us.take j ++ us.drop j := by rw [List.take_append_drop]
  rw [this]
  simp only [List.mem_append, List.mem_cons]
  constructor
  · rintro (h | h | h)
    · exact Or.inr (Or.inl h)
    · exact Or.inl h
    · exact Or.inr (Or.inr h)
  · rintro (h | h | h)
    · exact Or.inr (Or.inl h)
    · exact Or.inl h
    · exact Or.inr (Or.inr h)
theorem shift_set (us : List Int) (k : Nat) (y v : Int) (hk : k ≤ us.length) : (us.take k ++ y :: us.drop k).set k v = us.take k ++ v :: us.drop k := by
  rw [List.set_append]
  simp [show min k us.length = k by omega]
theorem shift_step (us : List Int) (k : Nat) (hk : k < us.length) : us.take (k + 1) ++ us.getD k 0 :: us.drop (k + 1) = us.take k ++ us.getD k 0 :: us.drop k := by
  have e1 := List.take_succ_eq_append_getElem hk
  have e2 := List.drop_eq_getElem_cons hk
  have e3 : us.getD k 0 = us[k] := by simp [hk]
  rw [e3, e1, e2, List.append_assoc]
  rfl
theorem shift_get (us : List Int) (k : Nat) (y : Int) (i : Nat) (hi : i < k) (hk : k ≤ us.length) : (us.take k ++ y :: us.drop k).getD i 0 = us.getD i 0 := by
  unfold List.getD
  rw [List.getElem?_append_left (by simp; omega), List.getElem?_take_of_lt hi]
theorem shift_length (us : List Int) (k : Nat) (y : Int) (hk : k ≤ us.length) : (us.take k ++ y :: us.drop k).length = us.length + 1 := by
  simp; omega

set_option maxHeartbeats 4000000 in
set_option maxRecDepth 100000 in
/-- zzSortedDistinct -/
theorem sd_any (w : World) (g cap : Nat) (xs : List Int) (hr : Row 2 w g cap xs) (hl : xs.length ≤ 4096) :
    Calls Try.prog 28 #[.slice (some ⟨g, 0, none⟩) xs.length cap] w fun e w' => ∃ us, Asc us ∧ (∀ a, a ∈ us ↔ a ∈ xs) ∧ e = .returned (.slice (some ⟨w.heap.size, 0, none⟩) us.length xs.length) ∧ Row 2 w' w.heap.size xs.length us ∧ Below w.heap.size w w' := by
  obtain ⟨i0, hi, hz0, hz1, hz2⟩ := info_parts Try.info2z
  have hmk := fun w => run_make (P := Try.prog) w 22 2 i0 (.int .i64 0) Try.underlying22 hi hz0 .i64 .i64 0 xs.length (by omega) (by omega) (by rw [hz2]; omega) (by omega)
  simp only [hz1, Int.toNat_natCast, Nat.mul_one, Int.toNat_zero] at hmk
  have hgl := hr.lt
  have HX : Hid (∀ wr, Below w.heap.size w wr → ∀ j, j < xs.length → wr.cell? ⟨g, j, none⟩ = some (.int .i64 (xs.getD j 0))) := fun wr hb j hj => (hr.below hb hgl).cell j hj
  clear hr
  obtain ⟨n, en⟩ : ∃ n, Hid (n = xs.length) := ⟨_, rfl⟩
  rw [← en.out] at hl ⊢
  simp only [← en.out] at hmk
  go_enter Try.func28, Try.ntmps28
  go_wp2
  clear hmk
  go_loopw [3, 4] (fun out i wr => ∃ (k : Nat) (us : List Int), k ≤ n ∧ i = .int .i64 k ∧ out = .slice (some ⟨w.heap.size, 0, none⟩) us.length n ∧ us.length ≤ k ∧ Asc us ∧ (∀ a, a ∈ us ↔ a ∈ xs.take k) ∧ Row 2 wr w.heap.size n us ∧ Below w.heap.size w wr) (fun _ i _ => n - (intOf i).toNat)
  case atStart =>
    exact ⟨0, [], Nat.zero_le _, rfl, rfl, Nat.le_refl _, List.Pairwise.nil, by simp, ⟨_, heap_alloc_new w _, size_madeCells _ _, by simp, fun j hj => by simp at hj⟩, (Below.refl _ _).alloc (Nat.le_refl _) _⟩
  case round =>
    obtain ⟨k, us, hk, rfl, rfl, hul, hasc, hmem, hrow, hb⟩ := hrel
    obtain ⟨wo, ewo⟩ : ∃ wo : World, wo = wr := ⟨_, rfl⟩
    subst ewo
    have HAsc : Hid (Asc us) := hasc
    have HMem : Hid (∀ a, a ∈ us ↔ a ∈ xs.take k) := hmem
    have HRow : Hid (Row 2 wo w.heap.size n us) := hrow
    have HBe : Hid (Below w.heap.size w wo) := hb
    have hwr : w.heap.size < wo.heap.size := hrow.lt
    clear hasc hmem hrow hb
    by_cases hlt : k < n
    · have d1 := HX.out wo HBe.out k (by rw [← en.out]; exact hlt)
      obtain ⟨x, ex⟩ : ∃ x, Hid (x = xs.getD k 0) := ⟨_, rfl⟩
      rw [← ex.out] at d1
      have HT : Hid (∀ a, a ∈ xs.take (k + 1) ↔ a = x ∨ a ∈ us) := by
        intro a
        rw [List.take_succ_eq_append_getElem (by rw [← en.out]; exact hlt), List.mem_append, ← HMem.out a, ex.out]
        simp [show k < xs.length by rw [← en.out]; exact hlt, or_comm]
      go_wp2
      go_loop [6] (fun v => ∃ j, j ≤ us.length ∧ v = .int .i64 j ∧ ∀ i, i < j → us.getD i 0 < x) (fun v => us.length - (intOf v).toNat)
      case atStart => exact ⟨0, Nat.zero_le _, rfl, fun i h => by omega⟩
      case round =>
        obtain ⟨j, hj, rfl, hlo⟩ := hrel
        have HLo : Hid (∀ i, i < j → us.getD i 0 < x) := hlo
        clear hlo
        by_cases hju : j < us.length
        · have d2 := HRow.out.cell j hju
          obtain ⟨y, ey⟩ : ∃ y, Hid (y = us.getD j 0) := ⟨_, rfl⟩
          rw [← ey.out] at d2
          by_cases hyx : y < x
          · go_wp2
            go_round
            case rel =>
              refine ⟨j + 1, by omega, by go_num, fun i h => ?_⟩
              by_cases h' : i < j
              · exact HLo.out i h'
              · rw [show i = j by omega, ← ey.out]; exact hyx
            case measure => simp [intOf]; omega
          · by_cases hye : y = x
            · have hyb : (y == x) = true := by simp [hye]
              have HYE : Hid (y = x) := hye
              clear hye
              go_wp2
              go_roundw
              case rel =>
                refine ⟨k + 1, us, by omega, by go_num, rfl, by omega, HAsc.out, fun a => ?_, HRow.out, HBe.out⟩
                rw [HT.out a]
                constructor
                · exact Or.inr
                · rintro (rfl | h)
                  · rw [← HYE.out, ey.out]; exact getD_mem hju
                  · exact h
              case measure => simp [intOf]; omega
            · have hyb : (y == x) = false := by simp [hye]
              have HHi : Hid (j < us.length → x < us.getD j 0) := fun _ => by rw [← ey.out]; omega
              clear hye
              go_wp2_with (at_builtin; refine wpList_append_one _ rfl _ _ 22 rfl 2 i0 Try.underlying22 hi hz1 w.heap.size n us us.length rfl rfl (HRow.out.grown (grownBy_alloc' wo _ none) (by simp)) wo.heap.size 1 0 rfl (by simp) (by omega) ?_)
              have HS : Hid (Row 2 ((wo.setCell ⟨w.heap.size, us.length, none⟩ (.int .i64 0)).alloc (.cells #[.int .i64 0] 2)) w.heap.size n (us.take us.length ++ 0 :: us.drop us.length) ∧ Below w.heap.size w ((wo.setCell ⟨w.heap.size, us.length, none⟩ (.int .i64 0)).alloc (.cells #[.int .i64 0] 2))) := by
                refine ⟨?_, (HBe.out.setCell (Nat.le_refl _) _).alloc (by simp; omega) _⟩
                have e := (HRow.out.push 0 (by omega)).grown (grownBy_alloc' _ (.cells #[.int .i64 0] 2) none) (by simp)
                simpa using e
              go_loopw [7] (fun v wr2 => ∃ (q : Nat) (y : Int), j ≤ q ∧ q ≤ us.length ∧ v = .int .i64 q ∧ Row 2 wr2 w.heap.size n (us.take q ++ y :: us.drop q) ∧ Below w.heap.size w wr2) (fun v _ => (intOf v).toNat)
              case atStart => exact ⟨us.length, 0, by omega, Nat.le_refl _, rfl, HS.out.1, HS.out.2⟩
              case round =>
                clear HS
                obtain ⟨wr2, ewr2⟩ : ∃ wr2 : World, wr2 = wr := ⟨_, rfl⟩
                subst ewr2
                obtain ⟨q, y2, hjq, hqu, rfl, hrow2, hb2⟩ := hrel
                have HRow2 : Hid (Row 2 wr2 w.heap.size n (us.take q ++ y2 :: us.drop q)) := hrow2
                have HB2 : Hid (Below w.heap.size w wr2) := hb2
                have hl2 := shift_length us q y2 hqu
                have HL2 : Hid ((us.take q ++ y2 :: us.drop q).length = us.length + 1) := hl2
                clear hrow2 hb2 hl2
                by_cases hqj : j < q
                · obtain ⟨q', rfl⟩ : ∃ q', q = q' + 1 := ⟨q - 1, by omega⟩
                  have d3 := HRow2.out.cell q' (by rw [HL2.out]; omega)
                  rw [shift_get us (q' + 1) y2 q' (by omega) hqu] at d3
                  have d4 := HRow2.out.cell (q' + 1) (by rw [HL2.out]; omega)
                  have f4 := HRow2.out.free (q' + 1)
                  have HP : Hid (Row 2 (wr2.setCell ⟨w.heap.size, q' + 1, none⟩ (.int .i64 (us.getD q' 0))) w.heap.size n (us.take q' ++ us.getD q' 0 :: us.drop q')) := by
                    have e := HRow2.out.put (q' + 1) (us.getD q' 0)
                    rw [shift_set us (q' + 1) y2 _ hqu, shift_step us q' (by omega)] at e
                    exact e
                  obtain ⟨z, ez⟩ : ∃ z, Hid (z = us.getD q' 0) := ⟨_, rfl⟩
                  rw [← ez.out] at d3 HP
                  obtain ⟨z2, ez2⟩ : ∃ z, Hid (z = (us.take (q' + 1) ++ y2 :: us.drop (q' + 1)).getD (q' + 1) 0) := ⟨_, rfl⟩
                  rw [← ez2.out] at d4
                  go_wp2
                  go_roundw
                  case rel => exact ⟨q', z, by omega, by omega, by go_num, HP.out, HB2.out.setCell (Nat.le_refl _) _⟩
                  case measure => simp [intOf]
                · obtain rfl : q = j := by omega
                  have d4 := HRow2.out.cell q (by rw [HL2.out]; omega)
                  have f4 := HRow2.out.free q
                  obtain ⟨z2, ez2⟩ : ∃ z, Hid (z = (us.take q ++ y2 :: us.drop q).getD q 0) := ⟨_, rfl⟩
                  rw [← ez2.out] at d4
                  have HP : Hid (Row 2 (wr2.setCell ⟨w.heap.size, q, none⟩ (.int .i64 x)) w.heap.size n (us.take q ++ x :: us.drop q)) := by
                    have e := HRow2.out.put q x
                    rw [shift_set us q y2 _ hqu] at e
                    exact e
                  have HE : Hid ((us.take q ++ x :: us.drop q).length = us.length + 1) := shift_length us q x hqu
                  go_wp2
                  go_roundw
                  case rel =>
                    refine ⟨k + 1, us.take q ++ x :: us.drop q, by omega, by go_num, by rw [HE.out], by rw [HE.out]; omega, insert_asc HAsc.out hqu HLo.out HHi.out, fun a => ?_, HP.out, HB2.out.setCell (Nat.le_refl _) _⟩
                    rw [insert_mem, HT.out a]
                  case measure => simp [intOf]; omega
        · have HHi : Hid (j < us.length → x < us.getD j 0) := fun h => absurd h hju
          go_wp2_with (at_builtin; refine wpList_append_one _ rfl _ _ 22 rfl 2 i0 Try.underlying22 hi hz1 w.heap.size n us us.length rfl rfl (HRow.out.grown (grownBy_alloc' wo _ none) (by simp)) wo.heap.size 1 0 rfl (by simp) (by omega) ?_)
          have HS : Hid (Row 2 ((wo.setCell ⟨w.heap.size, us.length, none⟩ (.int .i64 0)).alloc (.cells #[.int .i64 0] 2)) w.heap.size n (us.take us.length ++ 0 :: us.drop us.length) ∧ Below w.heap.size w ((wo.setCell ⟨w.heap.size, us.length, none⟩ (.int .i64 0)).alloc (.cells #[.int .i64 0] 2))) := by
            refine ⟨?_, (HBe.out.setCell (Nat.le_refl _) _).alloc (by simp; omega) _⟩
            have e := (HRow.out.push 0 (by omega)).grown (grownBy_alloc' _ (.cells #[.int .i64 0] 2) none) (by simp)
            simpa using e
          go_loopw [7] (fun v wr2 => ∃ (q : Nat) (y : Int), j ≤ q ∧ q ≤ us.length ∧ v = .int .i64 q ∧ Row 2 wr2 w.heap.size n (us.take q ++ y :: us.drop q) ∧ Below w.heap.size w wr2) (fun v _ => (intOf v).toNat)
          case atStart => exact ⟨us.length, 0, by omega, Nat.le_refl _, rfl, HS.out.1, HS.out.2⟩
          case round =>
            clear HS
            obtain ⟨wr2, ewr2⟩ : ∃ wr2 : World, wr2 = wr := ⟨_, rfl⟩
            subst ewr2
            obtain ⟨q, y2, hjq, hqu, rfl, hrow2, hb2⟩ := hrel
            have HRow2 : Hid (Row 2 wr2 w.heap.size n (us.take q ++ y2 :: us.drop q)) := hrow2
            have HB2 : Hid (Below w.heap.size w wr2) := hb2
            have hl2 := shift_length us q y2 hqu
            have HL2 : Hid ((us.take q ++ y2 :: us.drop q).length = us.length + 1) := hl2
            clear hrow2 hb2 hl2
            by_cases hqj : j < q
            · exfalso; omega
            · obtain rfl : q = j := by omega
              have d4 := HRow2.out.cell q (by rw [HL2.out]; omega)
              have f4 := HRow2.out.free q
              obtain ⟨z2, ez2⟩ : ∃ z, Hid (z = (us.take q ++ y2 :: us.drop q).getD q 0) := ⟨_, rfl⟩
              rw [← ez2.out] at d4
              have HP : Hid (Row 2 (wr2.setCell ⟨w.heap.size, q, none⟩ (.int .i64 x)) w.heap.size n (us.take q ++ x :: us.drop q)) := by
                have e := HRow2.out.put q x
                rw [shift_set us q y2 _ hqu] at e
                exact e
              have HE : Hid ((us.take q ++ x :: us.drop q).length = us.length + 1) := shift_length us q x hqu
              go_wp2
              go_roundw
              case rel =>
                refine ⟨k + 1, us.take q ++ x :: us.drop q, by omega, by go_num, by rw [HE.out], by rw [HE.out]; omega, insert_asc HAsc.out hqu HLo.out HHi.out, fun a => ?_, HP.out, HB2.out.setCell (Nat.le_refl _) _⟩
                rw [insert_mem, HT.out a]
              case measure => simp [intOf]; omega
    · go_wp2
      go_ret
      have e : xs.take k = xs := List.take_of_length_le (by rw [← en.out]; omega)
      have hm := HMem.out
      rw [e] at hm
      exact ⟨us, HAsc.out, hm, rfl, HRow.out, HBe.out⟩
end Go.Proofs.Qxb6604485a
