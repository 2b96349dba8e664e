import Derived.Test.Qxb6604565aBytes
namespace Go.Proofs.Qxb6604565a
open Go.RowKit
set_option linter.unusedVariables false

theorem take_snoc (zs : List Int) (k : Nat) (h : k < zs.length) : zs.take (k + 1) = zs.take k ++ [zs.getD k 0] := by
  rw [List.take_succ_eq_append_getElem h]; simp [h]

/-- one append of a byte within the room: what is there behind it -/
theorem Row.grew1 {w wr : World} {B g cap : Nat} {zs : List Int} (h : Row 5 wr g cap zs) (hb : Below B w wr) (hB : B ≤ g) (x : Int) (o : Obj) (hl : zs.length < cap) :
    Row 5 ((wr.setCell ⟨g, zs.length, none⟩ (.int .u8 x)).alloc o) g cap (zs ++ [x]) ∧ Below B w ((wr.setCell ⟨g, zs.length, none⟩ (.int .u8 x)).alloc o) :=
  ⟨(h.push x hl).grown (grownBy_alloc' _ o none) (by simp), (hb.setCell hB _).alloc (by simp; have := h.lt; omega) _⟩

set_option maxHeartbeats 2000000 in
/-- zzCat: the bytes of both, one behind the other, in a block of its own. -/
theorem cat_any (w : World) (a b : Option Addr) (c d : Nat) (xs ys : List Int) (hx : xs.length ≤ 2097152) (hy : ys.length ≤ 2097152) (h1 : Byt w a xs) (h2 : Byt w b ys) :
    Calls Try.prog 8 #[.slice a xs.length c, .slice b ys.length d] w fun e w' => e = .returned (.slice (some ⟨w.heap.size, 0, none⟩) (xs ++ ys).length (xs ++ ys).length) ∧ Row 5 w' w.heap.size (xs ++ ys).length (xs ++ ys) ∧ Below w.heap.size w w' := by
  obtain ⟨i0, hi, hz0, hz1, hz2⟩ := info_parts Try.info5
  obtain ⟨n, en⟩ : ∃ n, Hid (n = xs.length) := ⟨_, rfl⟩
  obtain ⟨m, em⟩ : ∃ n, Hid (n = ys.length) := ⟨_, rfl⟩
  have HL : Hid ((xs ++ ys).length = n + m) := by show _ = _; rw [List.length_append, en.out, em.out]
  rw [HL.out, ← en.out, ← em.out]
  rw [← en.out] at hx
  rw [← em.out] at hy
  have hmk := fun w => run_make (P := Try.prog) w 23 5 i0 (.int .u8 0) Try.underlying23 hi hz0 .i64 .i64 0 ((n : Int) + m) (by omega) (by omega) (by rw [hz2]; omega) (by omega)
  have et : ((n : Int) + m).toNat = n + m := by omega
  simp only [hz1, Nat.mul_one, Int.toNat_zero, et] at hmk
  have H1 : Hid (∀ wr, Below w.heap.size w wr → Byt wr a xs) := fun wr hb => h1.below hb
  have H2 : Hid (∀ wr, Below w.heap.size w wr → Byt wr b ys) := fun wr hb => h2.below hb
  clear h1 h2 et
  go_enter Try.func8, Try.ntmps8
  go_wp2
  clear hmk
  go_loopw [5, 6] (fun out i wr => ∃ k : Nat, k ≤ n ∧ i = .int .i64 k ∧ out = .slice (some ⟨w.heap.size, 0, none⟩) k (n + m) ∧ Row 5 wr w.heap.size (n + m) (xs.take k) ∧ Below w.heap.size w wr) (fun _ i _ => n - (intOf i).toNat)
  case atStart => exact ⟨0, Nat.zero_le _, rfl, rfl, made_none w _ 5, (Below.refl _ _).alloc (Nat.le_refl _) _⟩
  case round =>
    obtain ⟨k, hk, rfl, rfl, hrow, hb⟩ := hrel
    have HRow : Hid (Row 5 wr w.heap.size (n + m) (xs.take k)) := hrow
    have HB : Hid (Below w.heap.size w wr) := hb
    have hwr : w.heap.size < wr.heap.size := hrow.lt
    have HKL : Hid (k = (xs.take k).length) := by show _ = _; simp; rw [← en.out]; omega
    clear hrow hb
    by_cases hlt : k < n
    · obtain ⟨b1, o1, ea1, hl1, hc1⟩ := H1.out wr HB.out (by rw [← en.out]; omega)
      have d1 := hc1 k (by rw [← en.out]; exact hlt)
      have HN := fun x o => HRow.out.grew1 HB.out (Nat.le_refl _) x o (by rw [← HKL.out]; omega)
      have HNext : Hid (∀ o, Row 5 ((wr.setCell ⟨w.heap.size, k, none⟩ (.int .u8 (xs.getD k 0))).alloc o) w.heap.size (n + m) (xs.take (k + 1)) ∧ Below w.heap.size w ((wr.setCell ⟨w.heap.size, k, none⟩ (.int .u8 (xs.getD k 0))).alloc o)) := by
        intro o
        have e := HN (xs.getD k 0) o
        rw [← HKL.out, ← take_snoc xs k (by rw [← en.out]; exact hlt)] at e
        exact e
      clear HN
      obtain ⟨z, ez⟩ : ∃ z, Hid (z = xs.getD k 0) := ⟨_, rfl⟩
      rw [← ez.out] at d1 HNext
      subst ea1
      clear hc1
      go_wp2_with (at_builtin; refine wpList_append_one _ rfl _ _ 23 rfl 5 i0 Try.underlying23 hi hz1 w.heap.size (n + m) (xs.take k) k HKL.out rfl (HRow.out.grown (grownBy_alloc' wr _ none) (by simp)) wr.heap.size 1 z rfl (by simp) (by rw [← HKL.out]; omega) ?_)
      go_roundw
      case rel =>
        obtain ⟨q1, q2⟩ := HNext.out (.cells #[.int .u8 z] 5)
        exact ⟨k + 1, by omega, by go_num, rfl, q1, q2⟩
      case measure => simp [intOf]; omega
    · have HX : Hid (Row 5 wr w.heap.size (n + m) xs) := by
        have e : xs.take k = xs := List.take_of_length_le (by rw [← en.out]; omega)
        rw [e] at HRow; exact HRow
      obtain rfl : k = n := by omega
      clear HKL HRow
      go_wp2
      go_loopw [5, 7] (fun out i wr => ∃ j : Nat, j ≤ m ∧ i = .int .i64 j ∧ out = .slice (some ⟨w.heap.size, 0, none⟩) (k + j) (k + m) ∧ Row 5 wr w.heap.size (k + m) (xs ++ ys.take j) ∧ Below w.heap.size w wr) (fun _ i _ => m - (intOf i).toNat)
      case atStart => exact ⟨0, Nat.zero_le _, rfl, rfl, by simpa using HX.out, HB.out⟩
      case round =>
        obtain ⟨j, hj, rfl, rfl, hrow, hb⟩ := hrel
        clear HX HB hwr
        have HRow : Hid (Row 5 wr w.heap.size (k + m) (xs ++ ys.take j)) := hrow
        have HB : Hid (Below w.heap.size w wr) := hb
        have hwr : w.heap.size < wr.heap.size := hrow.lt
        have HKL : Hid (k + j = (xs ++ ys.take j).length) := by show _ = _; simp; rw [← en.out, ← em.out]; omega
        clear hrow hb
        by_cases hjm : j < m
        · obtain ⟨b1, o1, ea1, hl1, hc1⟩ := H2.out wr HB.out (by rw [← em.out]; omega)
          have d1 := hc1 j (by rw [← em.out]; exact hjm)
          have HN := fun x o => HRow.out.grew1 HB.out (Nat.le_refl _) x o (by rw [← HKL.out]; omega)
          have HNext : Hid (∀ o, Row 5 ((wr.setCell ⟨w.heap.size, k + j, none⟩ (.int .u8 (ys.getD j 0))).alloc o) w.heap.size (k + m) (xs ++ ys.take (j + 1)) ∧ Below w.heap.size w ((wr.setCell ⟨w.heap.size, k + j, none⟩ (.int .u8 (ys.getD j 0))).alloc o)) := by
            intro o
            have e := HN (ys.getD j 0) o
            rw [← HKL.out, List.append_assoc, ← take_snoc ys j (by rw [← em.out]; exact hjm)] at e
            exact e
          clear HN
          obtain ⟨z, ez⟩ : ∃ z, Hid (z = ys.getD j 0) := ⟨_, rfl⟩
          rw [← ez.out] at d1 HNext
          subst ea1
          clear hc1
          go_wp2_with (at_builtin; refine wpList_append_one _ rfl _ _ 23 rfl 5 i0 Try.underlying23 hi hz1 w.heap.size (k + m) (xs ++ ys.take j) (k + j) HKL.out rfl (HRow.out.grown (grownBy_alloc' wr _ none) (by simp)) wr.heap.size 1 z rfl (by simp) (by rw [← HKL.out]; omega) ?_)
          go_roundw
          case rel =>
            obtain ⟨q1, q2⟩ := HNext.out (.cells #[.int .u8 z] 5)
            exact ⟨j + 1, by omega, by go_num, rfl, q1, q2⟩
          case measure => simp [intOf]; omega
        · have HX : Hid (Row 5 wr w.heap.size (k + m) (xs ++ ys)) := by
            have e : ys.take j = ys := List.take_of_length_le (by rw [← em.out]; omega)
            rw [e] at HRow; exact HRow
          obtain rfl : j = m := by omega
          clear HKL HRow
          go_wp2
          go_ret
          exact ⟨rfl, HX.out, HB.out⟩
end Go.Proofs.Qxb6604565a
