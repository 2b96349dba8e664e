import Derived.Test.Qxb6604565aRow
namespace Go.Proofs.Qxb6604565a
open Go.RowKit
set_option linter.unusedVariables false

theorem made_row (w : World) (n : Nat) (t : TypeId) : Row t (w.alloc (.cells (madeCells #[Value.int .u8 0] n) t)) w.heap.size n (List.replicate n 0) := by
  refine ⟨_, heap_alloc_new w _, size_madeCells _ _, by simp, fun j hj => ?_⟩
  simp only [List.length_replicate] at hj
  rw [← Array.getElem?_toList, toList_madeCells_one]
  simp [hj]
theorem made_none (w : World) (n : Nat) (t : TypeId) : Row t (w.alloc (.cells (madeCells #[Value.int .u8 0] n) t)) w.heap.size n [] :=
  (made_row w n t).cutTo [] (by simp) (by simp)

theorem fill_step (zs : List Int) (n k : Nat) (hz : zs.length = n) (h : k < n) : (zs.take k ++ List.replicate (n - k) (0 : Int)).set k (zs.getD k 0) = zs.take (k + 1) ++ List.replicate (n - (k + 1)) 0 := by
  subst hz
  apply List.ext_getElem?
  intro j
  rw [List.getElem?_set]
  simp only [List.length_append, List.length_take, List.length_replicate, List.getElem?_append, List.getElem?_take, List.getElem?_replicate]
  have e1 : min k zs.length = k := by omega
  have e2 : min (k + 1) zs.length = k + 1 := by omega
  rw [e1, e2]
  by_cases h1 : k = j
  · subst h1
    simp [h]
    omega
  · by_cases h2 : j < k
    · simp [h1, h2]; rw [if_pos (by omega), if_pos (by omega)]
    · simp [h1, h2]
      by_cases h3 : j < zs.length
      · rw [if_pos (by omega), if_neg (by omega), if_pos (by omega)]
      · rw [if_neg (by omega), if_neg (by omega), if_neg (by omega)]

/-- zzClone: the bytes are the same, apart from all that was there; nil stays nil, else a block of its own. -/
theorem clone_nil (w : World) : Calls Try.prog 6 #[.slice none 0 0] w fun e w' => e = .returned (.slice none 0 0) ∧ w = w' := by
  have q23 : ∀ (w : World) (a : Option Addr) (n c n' c' : Nat), (binOp .eql 23 (.slice a n c) (.slice none n' c')).run Try.prog w = .ok (.bool a.isNone) w := fun w a n c n' c' => Lib.run_eql_slice_nil w _ _ a n c n' c' Try.underlying23
  go_enter Try.func6, Try.ntmps6
  go_wp2
  go_ret
  exact ⟨rfl, rfl⟩
theorem clone_some (w : World) (x : Addr) (cap : Nat) (zs : List Int) (hlen : zs.length ≤ 1048576) (hs : Byt w (some x) zs) :
    Calls Try.prog 6 #[.slice (some x) zs.length cap] w fun e w' => e = .returned (.slice (some ⟨w.heap.size, 0, none⟩) zs.length zs.length) ∧ Row 5 w' w.heap.size zs.length zs ∧ Below w.heap.size w w' := by
  have q23 : ∀ (w : World) (a : Option Addr) (n c n' c' : Nat), (binOp .eql 23 (.slice a n c) (.slice none n' c')).run Try.prog w = .ok (.bool a.isNone) w := fun w a n c n' c' => Lib.run_eql_slice_nil w _ _ a n c n' c' Try.underlying23
  obtain ⟨n, en⟩ : ∃ n, Hid (n = zs.length) := ⟨_, rfl⟩
  rw [← en.out] at hlen ⊢
  have hmk := fun w => run_make_row' 23 5 (.int .u8 0) 1 Try.underlying23 Try.info5 rfl .i64 .i64 n (by omega) (by omega) w
  have HS : Hid (Byt w (some x) zs) := hs
  clear hs
  go_enter Try.func6, Try.ntmps6
  go_wp2
  clear hmk q23
  go_loopw [4] (fun i wr => ∃ k : Nat, k ≤ n ∧ i = .int .i64 k ∧ Row 5 wr w.heap.size n (zs.take k ++ List.replicate (n - k) 0) ∧ Below w.heap.size w wr) (fun i _ => n - (intOf i).toNat)
  case atStart => exact ⟨0, Nat.zero_le _, rfl, by simpa using made_row w n 5, (Below.refl _ _).alloc (Nat.le_refl _) _⟩
  case round =>
    obtain ⟨k, hk, rfl, hrow, hb⟩ := hrel
    by_cases hlt : k < n
    · obtain ⟨b, off, ea, hbl, hc⟩ := HS.out (by rw [← en.out]; omega)
      have hk1 := (hb.cell (p := ⟨b, off + k, none⟩) hbl).trans (hc k (by rw [← en.out]; exact hlt))
      simp only [Option.some.injEq] at ea
      subst ea
      have hz : zs.length = n := en.out.symm
      have hl1 : (zs.take k ++ List.replicate (n - k) (0 : Int)).length = n := by simp; omega
      have h2 := hrow.cell k (by rw [hl1]; exact hlt)
      have f2 := hrow.free k
      have HP : Hid (Row 5 (wr.setCell ⟨w.heap.size, k, none⟩ (.int .u8 (zs.getD k 0))) w.heap.size n (zs.take (k + 1) ++ List.replicate (n - (k + 1)) 0)) := by
        have e := hrow.put k (zs.getD k 0)
        rw [fill_step zs n k hz hlt] at e
        exact e
      have HB : Hid (Below w.heap.size w wr) := hb
      obtain ⟨z, ez⟩ : ∃ z, Hid (z = zs.getD k 0) := ⟨_, rfl⟩
      rw [← ez.out] at hk1 HP
      obtain ⟨z2, ez2⟩ : ∃ z, Hid (z = (zs.take k ++ List.replicate (n - k) (0 : Int)).getD k 0) := ⟨_, rfl⟩
      rw [← ez2.out] at h2
      clear hc hrow hb hz hl1
      go_wp2
      go_roundw
      case rel => exact ⟨k + 1, by omega, by go_num, HP.out, HB.out.setCell (Nat.le_refl _) _⟩
      case measure => simp [intOf]; omega
    · have e : zs.take k ++ List.replicate (n - k) (0 : Int) = zs := by
        rw [List.take_of_length_le (by rw [← en.out]; omega), show n - k = 0 by omega]; simp
      rw [e] at hrow
      clear e
      go_wp2
      go_ret
      exact ⟨rfl, hrow, hb⟩
theorem clone_any (w : World) (a : Option Addr) (cap : Nat) (zs : List Int) (hlen : zs.length ≤ 1048576) (hs : Byt w a zs) (hn : a = none → zs = [] ∧ cap = 0) :
    Calls Try.prog 6 #[.slice a zs.length cap] w fun e w' => ∃ a', e = .returned (.slice a' zs.length zs.length) ∧ Byt w' a' zs ∧ Below w.heap.size w w' := by
  cases a with
  | none =>
    obtain ⟨rfl, rfl⟩ := hn rfl
    refine (clone_nil w).mono ?_
    rintro e w' ⟨rfl, rfl⟩
    exact ⟨none, rfl, hs, Below.refl _ _⟩
  | some x =>
    refine (clone_some w x cap zs hlen hs).mono ?_
    rintro e w' ⟨rfl, h1, h2⟩
    exact ⟨_, rfl, h1.byt, h2⟩

set_option maxHeartbeats 1000000 in
/-- zzEq over the same bytes -/
theorem eq_same (w : World) (a b : Option Addr) (n c d : Nat) (zs : List Int) (hz : zs.length = n) (hn : n ≤ 2097152) (h1 : Byt w a zs) (h2 : Byt w b zs) :
    Calls Try.prog 11 #[.slice a n c, .slice b n d] w fun e w' => e = .returned (.bool true) ∧ ∃ nq, w' = w.drewN nq := by
  have HZ : Hid (zs.length = n) := hz
  have H1 : Hid (Byt w a zs) := h1
  have H2 : Hid (Byt w b zs) := h2
  clear hz h1 h2
  go_enter Try.func11, Try.ntmps11
  go_wp2
  go_loopw [5] (fun i wr => ∃ k nq : Nat, k ≤ n ∧ i = .int .i64 k ∧ wr = w.drewN nq) (fun i _ => n - (intOf i).toNat)
  case atStart => exact ⟨0, 0, Nat.zero_le _, rfl, rfl⟩
  case round =>
    obtain ⟨k, nq, hk, rfl, rfl⟩ := hrel
    by_cases hlt : k < n
    · obtain ⟨b1, o1, ea1, _, hc1⟩ := H1.out (by rw [HZ.out]; omega)
      obtain ⟨b2, o2, ea2, _, hc2⟩ := H2.out (by rw [HZ.out]; omega)
      have d1 := hc1 k (by rw [HZ.out]; exact hlt)
      have d2 := hc2 k (by rw [HZ.out]; exact hlt)
      obtain ⟨z, ez⟩ : ∃ z, Hid (z = zs.getD k 0) := ⟨_, rfl⟩
      rw [← ez.out] at d1 d2
      subst ea1 ea2
      clear hc1 hc2
      go_wp2
      go_region
      all_goals
        go_wp2
        go_roundw
        case rel => exact ⟨k + 1, _, by omega, by go_num, rfl⟩
        case measure => simp [intOf]; omega
    · go_wp2
      go_ret
      exact ⟨rfl, nq, rfl⟩
end Go.Proofs.Qxb6604565a
