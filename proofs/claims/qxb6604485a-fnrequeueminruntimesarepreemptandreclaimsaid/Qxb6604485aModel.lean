import Derived.Test.Qxb6604485aReq
namespace Go.Proofs.Qxb6604485a
open Go.RowKit
set_option linter.unusedVariables false

/-- what is known of an argument's slices -/
def ArgB (w : World) (b off : Nat) (bl : List Bool) : Prop := ∀ j, j < bl.length → w.cell? ⟨b, off + j, none⟩ = some (.bool (bl.getD j false))
def ArgI (w : World) (b off : Nat) (zs : List Int) : Prop := ∀ j, j < zs.length → w.cell? ⟨b, off + j, none⟩ = some (.int .i64 (zs.getD j 0))
theorem ArgB.below {w w' : World} {B b off : Nat} {bl : List Bool} (h : ArgB w b off bl) (hb : Below B w w') (hB : b < B) : ArgB w' b off bl := fun j hj => (hb.cell (p := ⟨b, off + j, none⟩) hB).trans (h j hj)
theorem ArgI.below {w w' : World} {B b off : Nat} {zs : List Int} (h : ArgI w b off zs) (hb : Below B w w') (hB : b < B) : ArgI w' b off zs := fun j hj => (hb.cell (p := ⟨b, off + j, none⟩) hB).trans (h j hj)
/-- the settings that two slices give -/
def opts (n : Nat) (bl : List Bool) (zs : List Int) : List (Option Int) := (List.range n).map fun i => if bl.getD i false then some (zs.getD i 0) else none
theorem opts_length (n : Nat) (bl : List Bool) (zs : List Int) : (opts n bl zs).length = n := by simp [opts]
theorem opts_drop (n : Nat) (bl : List Bool) (zs : List Int) (j : Nat) (hj : j < n) : (opts n bl zs).drop j = (if bl.getD j false then some (zs.getD j 0) else none) :: (opts n bl zs).drop (j + 1) := by
  rw [List.drop_eq_getElem_cons (by rw [opts_length]; exact hj)]
  simp [opts]
theorem opts_drop_all (n : Nat) (bl : List Bool) (zs : List Int) : (opts n bl zs).drop n = [] := by
  rw [List.drop_eq_nil_iff, opts_length]; exact Nat.le_refl _
theorem suff_get (d : Int) (l : List (Option Int)) (k : Nat) (h : k < l.length) : (suff d l)[k]? = some (firstD d (l.drop k)) := by
  induction l generalizing k with
  | nil => simp at h
  | cons x r ih =>
    cases k with
    | zero => simp [suff]
    | succ k => simpa [suff] using ih k (by simpa using h)
theorem suff_take_succ (d : Int) (l : List (Option Int)) (k : Nat) (h : k < l.length) : (suff d l).take (k + 1) = (suff d l).take k ++ [firstD d (l.drop k)] := by
  rw [List.take_add_one, suff_get d l k h]
  rfl
theorem Try.info2z : (Try.prog.info? 2).map (fun i => (i.zero, i.size, i.bytes)) = some (some (.int .i64 0), 1, 8) := by kernel_rfl

set_option maxHeartbeats 2000000 in
set_option maxRecDepth 100000 in
/-- zzReclaimModel -/
theorem model_any (w : World) (dr : Int) (m : ByteArray) (n b1 o1 c1 b2 o2 c2 : Nat) (bl : List Bool) (zs : List Int) (hbl : bl.length = n) (hzs : zs.length = n) (h1 : ArgB w b1 o1 bl) (h2 : ArgI w b2 o2 zs) (hb1 : b1 < w.heap.size) (hb2 : b2 < w.heap.size) (hn0 : 0 < n) (hn : n ≤ 1024) :
    Calls Try.prog 27 #[.int .i64 dr, .string m, .slice (some ⟨b1, o1, none⟩) n c1, .slice (some ⟨b2, o2, none⟩) n c2] w fun e w' =>
      e = .returned (.slice (some ⟨w.heap.size, 0, none⟩) (recls (isQ m) dr (opts n bl zs)).length n) ∧ Row 2 w' w.heap.size n (recls (isQ m) dr (opts n bl zs)) ∧ Below w.heap.size w w' := by
  obtain ⟨i0, hi, hz0, hz1, hz2⟩ := info_parts Try.info2z
  have hmk := fun w => run_make (P := Try.prog) w 22 2 i0 (.int .i64 0) Try.underlying22 hi hz0 .i64 .i64 0 n (by omega) (by omega) (by rw [hz2]; omega) (by omega)
  simp only [hz1, Int.toNat_natCast, Nat.mul_one, Int.toNat_zero] at hmk
  have H1 : Hid (ArgB w b1 o1 bl) := h1
  have H2 : Hid (ArgI w b2 o2 zs) := h2
  have HB : Hid (bl.length = n) := hbl
  have HZ : Hid (zs.length = n) := hzs
  clear h1 h2 hbl hzs
  go_enter Try.func27, Try.ntmps27
  go_wp2
  clear hmk
  go_loopw [9, 10] (fun out i wr => ∃ k, k ≤ n ∧ i = .int .i64 k ∧ out = .slice (some ⟨w.heap.size, 0, none⟩) k n ∧ Row 2 wr w.heap.size n ((suff dr (opts n bl zs)).take k) ∧ Below w.heap.size w wr ∧ (isQ m = true → k = 0)) (fun _ i _ => n - (intOf i).toNat)
  case atStart =>
    refine ⟨0, Nat.zero_le _, rfl, rfl, ⟨_, heap_alloc_new w _, size_madeCells _ _, by simp, fun j hj => by simp at hj⟩, (Below.refl _ _).alloc (Nat.le_refl _) _, fun _ => rfl⟩
  case round =>
    obtain ⟨k, hk, rfl, rfl, hrow, hb, hq0⟩ := hrel
    have HRow : Hid (Row 2 wr w.heap.size n ((suff dr (opts n bl zs)).take k)) := hrow
    have HBe : Hid (Below w.heap.size w wr) := hb
    have HQ0 : Hid (isQ m = true → k = 0) := hq0
    have A1 : Hid (ArgB wr b1 o1 bl) := H1.out.below hb hb1
    have A2 : Hid (ArgI wr b2 o2 zs) := H2.out.below hb hb2
    have hwr : w.heap.size < wr.heap.size := hrow.lt
    clear hrow hb hq0
    have HKL : Hid (k = ((suff dr (opts n bl zs)).take k).length) := by show _ = _; simp [suff_length, opts_length]; omega
    by_cases hlt : k < n
    · have HRoom : Hid (((suff dr (opts n bl zs)).take k).length < n) := by show _ < _; rw [← HKL.out]; exact hlt
      have HNext : Hid (∀ o z, z = firstD dr ((opts n bl zs).drop k) → Row 2 ((wr.setCell ⟨w.heap.size, k, none⟩ (.int .i64 z)).alloc o) w.heap.size n ((suff dr (opts n bl zs)).take (k + 1)) ∧ Below w.heap.size w ((wr.setCell ⟨w.heap.size, k, none⟩ (.int .i64 z)).alloc o)) := by
        intro o z hz
        have e := HRow.out.push z HRoom.out
        rw [← HKL.out] at e
        rw [suff_take_succ dr _ k (by rw [opts_length]; exact hlt), ← hz]
        exact ⟨e.grown (grownBy_alloc' _ o none) (by simp), (HBe.out.setCell (Nat.le_refl _) _).alloc (by simp; omega) _⟩
      go_wp2
      go_loop [11, 12] (fun r v => ∃ j, k ≤ j ∧ j ≤ n ∧ v = .int .i64 j ∧ r = .int .i64 dr ∧ firstD dr ((opts n bl zs).drop j) = firstD dr ((opts n bl zs).drop k)) (fun _ v => n - (intOf v).toNat)
      case atStart => exact ⟨k, Nat.le_refl _, hk, rfl, rfl, rfl⟩
      case round =>
        obtain ⟨j, hkj, hjn, rfl, rfl, hfd⟩ := hrel
        have HF : Hid (firstD dr ((opts n bl zs).drop j) = firstD dr ((opts n bl zs).drop k)) := hfd
        clear hfd
        by_cases hj : j < n
        · have g1 := A1.out j (by rw [HB.out]; exact hj)
          have g2 := A2.out j (by rw [HZ.out]; exact hj)
          have HF2 : Hid (firstD dr ((if bl.getD j false then some (zs.getD j 0) else none) :: (opts n bl zs).drop (j + 1)) = firstD dr ((opts n bl zs).drop k)) := by rw [← opts_drop n bl zs j hj]; exact HF
          obtain ⟨s, es⟩ : ∃ s, Hid (s = bl.getD j false) := ⟨_, rfl⟩
          obtain ⟨z, ez⟩ : ∃ z, Hid (z = zs.getD j 0) := ⟨_, rfl⟩
          rw [← es.out] at g1 HF2
          rw [← ez.out] at g2 HF2
          cases s with
          | false =>
            go_wp2
            go_round
            case rel => exact ⟨j + 1, by omega, by omega, by go_num, rfl, HF2.out⟩
            case measure => simp [intOf]; omega
          | true =>
            have HV : Hid (z = firstD dr ((opts n bl zs).drop k)) := HF2.out
            clear HF HF2 es ez
            cases hq : isQ m with
            | false =>
              have hq' : (m.toList == [113, 117, 101, 117, 101]) = false := hq
              have HQF : Hid (isQ m = false) := hq
              clear hq
              go_wp2_with (at_builtin; refine wpList_append_one _ rfl _ _ 22 rfl 2 i0 Try.underlying22 hi hz1 w.heap.size n ((suff dr (opts n bl zs)).take k) k HKL.out rfl (HRow.out.grown (grownBy_alloc' wr _ none) (by simp)) wr.heap.size 1 z rfl (by simp) HRoom.out ?_)
              go_roundw
              case rel =>
                obtain ⟨q1, q2⟩ := HNext.out (.cells #[.int .i64 z] 2) z HV.out
                exact ⟨k + 1, by omega, by go_num, rfl, q1, q2, fun h => by rw [HQF.out] at h; exact absurd h (by simp)⟩
              case measure => simp [intOf]; omega
            | true =>
              have hq' : (m.toList == [113, 117, 101, 117, 101]) = true := hq
              have HQF : Hid (isQ m = true) := hq
              obtain rfl := HQ0.out hq
              clear hq
              go_wp2_with (at_builtin; refine wpList_append_one _ rfl _ _ 22 rfl 2 i0 Try.underlying22 hi hz1 w.heap.size n ((suff dr (opts n bl zs)).take 0) 0 HKL.out rfl (HRow.out.grown (grownBy_alloc' wr _ none) (by simp)) wr.heap.size 1 z rfl (by simp) HRoom.out ?_)
              go_ret
              obtain ⟨q1, q2⟩ := HNext.out (.cells #[.int .i64 z] 2) z HV.out
              have er : recls (isQ m) dr (opts n bl zs) = (suff dr (opts n bl zs)).take (0 + 1) := by rw [HQF.out]; simp [recls]
              have el : (recls (isQ m) dr (opts n bl zs)).length = 1 := by rw [er]; simp [suff_length, opts_length]; omega
              rw [el]
              refine ⟨rfl, ?_, q2⟩
              rw [er]; exact q1
        · have hjn' : j = n := by omega
          have HV : Hid (dr = firstD dr ((opts n bl zs).drop k)) := by show _ = _; rw [← HF.out, hjn', opts_drop_all]; rfl
          clear HF hjn'
          cases hq : isQ m with
          | false =>
            have hq' : (m.toList == [113, 117, 101, 117, 101]) = false := hq
            have HQF : Hid (isQ m = false) := hq
            clear hq
            go_wp2_with (at_builtin; refine wpList_append_one _ rfl _ _ 22 rfl 2 i0 Try.underlying22 hi hz1 w.heap.size n ((suff dr (opts n bl zs)).take k) k HKL.out rfl (HRow.out.grown (grownBy_alloc' wr _ none) (by simp)) wr.heap.size 1 dr rfl (by simp) HRoom.out ?_)
            go_roundw
            case rel =>
              obtain ⟨q1, q2⟩ := HNext.out (.cells #[.int .i64 dr] 2) dr HV.out
              exact ⟨k + 1, by omega, by go_num, rfl, q1, q2, fun h => by rw [HQF.out] at h; exact absurd h (by simp)⟩
            case measure => simp [intOf]; omega
          | true =>
            have hq' : (m.toList == [113, 117, 101, 117, 101]) = true := hq
            have HQF : Hid (isQ m = true) := hq
            obtain rfl := HQ0.out hq
            clear hq
            go_wp2_with (at_builtin; refine wpList_append_one _ rfl _ _ 22 rfl 2 i0 Try.underlying22 hi hz1 w.heap.size n ((suff dr (opts n bl zs)).take 0) 0 HKL.out rfl (HRow.out.grown (grownBy_alloc' wr _ none) (by simp)) wr.heap.size 1 dr rfl (by simp) HRoom.out ?_)
            go_ret
            obtain ⟨q1, q2⟩ := HNext.out (.cells #[.int .i64 dr] 2) dr HV.out
            have er : recls (isQ m) dr (opts n bl zs) = (suff dr (opts n bl zs)).take (0 + 1) := by rw [HQF.out]; simp [recls]
            have el : (recls (isQ m) dr (opts n bl zs)).length = 1 := by rw [er]; simp [suff_length, opts_length]; omega
            rw [el]
            refine ⟨rfl, ?_, q2⟩
            rw [er]; exact q1
    · have hqf : isQ m = false := by
        cases hq : isQ m
        · rfl
        · have := HQ0.out hq; omega
      have hkn : k = n := by omega
      have er : recls (isQ m) dr (opts n bl zs) = (suff dr (opts n bl zs)).take k := by rw [hqf, hkn, List.take_of_length_le (by rw [suff_length, opts_length]; exact Nat.le_refl _)]; simp [recls]
      have HER : Hid (recls (isQ m) dr (opts n bl zs) = (suff dr (opts n bl zs)).take k) := er
      clear er hqf hkn
      go_wp2
      go_ret
      rw [HER.out, ← HKL.out]
      exact ⟨rfl, HRow.out, HBe.out⟩
end Go.Proofs.Qxb6604485a
