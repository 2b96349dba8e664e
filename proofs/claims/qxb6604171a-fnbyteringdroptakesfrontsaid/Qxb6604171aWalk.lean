import Derived.Test.Qxb6604171aClone
import Derived.Test.Qxb6604171aRing
import Derived.Test.Qxb6604171aDrop
namespace Go.Proofs.Qxb6604171a
open Go.RowKit Go.ChangeShapes Go.WideShapes Go.ChangeAt
set_option linter.unusedVariables false

theorem bytes_no (w : World) (a : Option Addr) (l c : Nat) (h s n : Int) (hl : 1048576 < l) :
    Calls Try.prog 8 #[.slice a l c, .int .i64 h, .int .i64 s, .int .i64 n] w fun e w' => e = .returned (.bool false) ∧ w = w' := by
  go_enter Try.func8, Try.ntmps8
  go_wp2
  go_ret
  exact ⟨rfl, rfl⟩
theorem bytes_yes (w : World) (a : Option Addr) (l c : Nat) (h s n : Int) (hl : l ≤ 1048576) :
    Calls Try.prog 8 #[.slice a l c, .int .i64 h, .int .i64 s, .int .i64 n] w fun e w' => e = .returned (.bool true) ∧ w = w' := by
  go_enter Try.func8, Try.ntmps8
  go_wp2
  go_ret
  exact ⟨rfl, rfl⟩

theorem walk_long (w : World) (a : Option Addr) (l c : Nat) (h s n : Int) (hl : 1048576 < l) :
    Calls Try.prog 4 #[.slice a l c, .int .i64 h, .int .i64 s, .int .i64 n] w fun e w' => e = .returned (.bool true) ∧ Below w.heap.size w w' := by
  go_enter Try.func4, Try.ntmps4
  go_wp2_with (go_at_call 8; refine (bytes_no _ _ _ _ _ _ _ hl).mono ?_; rintro e w' ⟨rfl, rfl⟩)
  go_ret
  exact ⟨rfl, Below.refl _ _⟩

theorem walk_bad (w : World) (a : Option Addr) (l c : Nat) (h s n : Int) (hl : l ≤ 1048576) (hb : ¬ (0 ≤ s ∧ s ≤ l ∧ (l = 0 → h = 0) ∧ (0 < l → 0 ≤ h ∧ h < l))) :
    Calls Try.prog 4 #[.slice a l c, .int .i64 h, .int .i64 s, .int .i64 n] w fun e w' => e = .returned (.bool true) ∧ Below w.heap.size w w' := by
  have HB : Hid (¬ (0 ≤ s ∧ s ≤ l ∧ (l = 0 → h = 0) ∧ (0 < l → 0 ≤ h ∧ h < l))) := hb
  clear hb
  go_enter Try.func4, Try.ntmps4
  go_wp2_with (first | (go_at_call 8; refine (bytes_yes _ _ _ _ _ _ _ hl).mono ?_; rintro e w' ⟨rfl, rfl⟩) | (go_at_call 9; refine (ringOK_no _ _ _ _ HB.out).mono ?_; rintro e w' ⟨rfl, rfl⟩))
  go_ret
  exact ⟨rfl, Below.refl _ _⟩

theorem walk_n (w : World) (a : Option Addr) (l c h s : Nat) (n : Int) (hl : l ≤ 1048576) (hs : s ≤ l) (h0 : l = 0 → h = 0) (h1 : 0 < l → h < l) (hn : n < 0 ∨ (s : Int) < n) :
    Calls Try.prog 4 #[.slice a l c, .int .i64 h, .int .i64 s, .int .i64 n] w fun e w' => e = .returned (.bool true) ∧ Below w.heap.size w w' := by
  have HA : Hid (l = 0 → h = 0) := h0
  have HB : Hid (0 < l → h < l) := h1
  clear h0 h1
  by_cases hn0 : n < 0
  · clear hn
    go_enter Try.func4, Try.ntmps4
    go_wp2_with (first | (go_at_call 8; refine (bytes_yes _ _ _ _ _ _ _ hl).mono ?_; rintro e w' ⟨rfl, rfl⟩) | (go_at_call 9; refine (ringOK_yes _ _ _ _ hs HA.out HB.out).mono ?_; rintro e w' ⟨rfl, rfl⟩))
    go_ret
    exact ⟨rfl, Below.refl _ _⟩
  · have hn1 : (s : Int) < n := by omega
    clear hn
    go_enter Try.func4, Try.ntmps4
    go_wp2_with (first | (go_at_call 8; refine (bytes_yes _ _ _ _ _ _ _ hl).mono ?_; rintro e w' ⟨rfl, rfl⟩) | (go_at_call 9; refine (ringOK_yes _ _ _ _ hs HA.out HB.out).mono ?_; rintro e w' ⟨rfl, rfl⟩))
    go_ret
    exact ⟨rfl, Below.refl _ _⟩

/-- A nil buffer: an empty ring. -/
theorem walk_nil (w : World) :
    Calls Try.prog 4 #[.slice none 0 0, .int .i64 0, .int .i64 0, .int .i64 0] w fun e w' => e = .returned (.bool true) ∧ Below w.heap.size w w' := by
  go_enter Try.func4, Try.ntmps4
  go_wp2_with (first | (go_at_call 8; refine (bytes_yes _ none 0 0 0 0 0 (by omega)).mono ?_; rintro e w' ⟨rfl, rfl⟩) | (go_at_call 9; refine (ringOK_yes _ 0 0 0 (by omega) (by omega) (by omega)).mono ?_; rintro e w' ⟨rfl, rfl⟩) | (go_at_call 10; refine (clone_nil _).mono ?_; rintro e w' ⟨rfl, rfl⟩))
  have hc0 : ∀ w : World, Calls Try.prog 11 #[.slice none 0 0, .int .i64 0, .int .i64 0] w fun e w' => e = .returned (.slice (some ⟨w.heap.size, 0, none⟩) 0 0) ∧ w' = w.alloc (.cells (cellsOf []) 5) := fun w => by
    simpa [ring] using contents_any w none 0 [] 0 0 0 (by simp) (by simp) (by simp) (by simp) (by simp)
  refine (hc0 _).mono ?_
  clear hc0
  rintro e w' ⟨rfl, rfl⟩
  have hd0 : ∀ w : World, Calls Try.prog 12 #[.slice none 0 0, .int .i64 0, .int .i64 0, .int .i64 0] w fun e w' => e = .returned (.tuple #[.slice none 0 0, .int .i64 0, .int .i64 0]) ∧ Below w.heap.size w w' := fun w => by
    simpa using drop_zero w none 0 0 0 0
  go_wp2_with (go_at_call 12; refine (hd0 _).mono ?_; rintro e w' ⟨rfl, hb⟩)
  clear hd0
  refine wp_loop_rounds 1 ?_
  rw [rounds_succ]
  go_wp2_with (go_at_call 13; refine (same_nil _).mono ?_; rintro e w' ⟨rfl, hb2⟩)
  go_ret
  have hb1 : Below w.heap.size w (w.alloc (.cells (cellsOf []) 5)) := (Below.refl _ _).alloc (Nat.le_refl _) _
  have hz := hb1.size
  have hz2 := hb.size
  exact ⟨rfl, (hb1.trans (hb.mono hz)).trans (hb2.mono (Nat.le_trans hz hz2))⟩

/-- The steps of p, n times, from h: the head moves n places on. -/
theorem head_step_wrap {l h k p : Nat} (hp : p = (h + k) % l) (hw : p + 1 = l) : 0 = (h + (k + 1)) % l := by
  rw [← Nat.add_assoc, mod_step_wrap]
  rw [← hp]; exact hw
theorem head_step {l h k p : Nat} (hl : 0 < l) (hp : p = (h + k) % l) (hw : p + 1 ≠ l) : p + 1 = (h + (k + 1)) % l := by
  rw [← Nat.add_assoc, mod_step _ _ hl, hp]
  rw [← hp]; exact hw

theorem below_dr {B : Nat} {w w' : World} (h : Below B w w') (n : Nat) : Below B w (w'.drewN n) := ⟨h.os, h.tape, h.output, h.size, h.block⟩
set_option maxHeartbeats 1000000 in
theorem walk_some (w : World) (x : Addr) (l c h s n : Nat) (zs : List Int) (hz : zs.length = l) (hl : l ≤ 1048576) (hs : s ≤ l) (h0 : l = 0 → h = 0) (h1 : 0 < l → h < l) (hn : n ≤ s)
    (hc : ∀ j, j < l → w.cell? (x.add j) = some (.int .u8 (zs.getD j 0))) (hx : 0 < l → x.block < w.heap.size) :
    Calls Try.prog 4 #[.slice (some x) l c, .int .i64 h, .int .i64 s, .int .i64 n] w fun e w' => e = .returned (.bool true) ∧ Below w.heap.size w w' := by
  have HA : Hid (l = 0 → h = 0) := h0
  have HB : Hid (0 < l → h < l) := h1
  have HZ : Hid (zs.length = l) := hz
  have HC : Hid (∀ j, j < l → w.cell? (x.add j) = some (.int .u8 (zs.getD j 0))) := hc
  have HX : Hid (0 < l → x.block < w.heap.size) := hx
  clear h0 h1 hz hc hx
  go_enter Try.func4, Try.ntmps4
  go_wp2_with (first | (go_at_call 8; refine (bytes_yes _ _ _ _ _ _ _ hl).mono ?_; rintro e w' ⟨rfl, rfl⟩) | (go_at_call 9; refine (ringOK_yes _ _ _ _ hs HA.out HB.out).mono ?_; rintro e w' ⟨rfl, rfl⟩))
  refine (clone_some w x l c zs HZ.out hl HC.out HX.out).mono ?_
  rintro e w1 ⟨rfl, hw1⟩
  have hb1 : Below w.heap.size w w1 := by rw [hw1]; exact (Below.refl _ _).alloc (Nat.le_refl _) _
  have hr1 : RowAt w1 w.heap.size zs := by rw [hw1]; exact RowAt.made w zs
  have hs1 : Hid (w1.heap.size = w.heap.size + 1) := by rw [hw1]; simp [Hid]
  clear hw1
  go_wp2_with fail
  refine (clone_some w1 ⟨w.heap.size, 0, none⟩ l l zs HZ.out hl (fun j hj => by rw [add_plain]; simpa using hr1.cell j (by have := HZ.out; omega)) (fun _ => hr1.lt)).mono ?_
  rintro e w2 ⟨rfl, hw2⟩
  have hb2 : Below w1.heap.size w1 w2 := by rw [hw2]; exact (Below.refl _ _).alloc (Nat.le_refl _) _
  have hr2 : RowAt w2 w1.heap.size zs := by rw [hw2]; exact RowAt.made w1 zs
  have hs2 : Hid (w2.heap.size = w1.heap.size + 1) := by rw [hw2]; simp [Hid]
  have hr12 : RowAt w2 w.heap.size zs := hr1.below hb2 hr1.lt
  clear hw2
  go_wp2_with fail
  have hc3 := contents_any w2 (some ⟨w.heap.size, 0, none⟩) l zs h s w.heap.size (by rw [HZ.out]; exact hl) (by rw [HZ.out]; exact hs) (fun _ => ⟨rfl, hr12⟩) (fun h0 => by rw [HZ.out]; exact HB.out (by omega)) (fun h0 => by rw [HZ.out]; have := HA.out; have := HB.out; omega)
  rw [HZ.out] at hc3
  refine hc3.mono ?_
  clear hc3
  rintro e w3 ⟨rfl, hw3⟩
  have hb3 : Below w2.heap.size w2 w3 := by rw [hw3]; exact (Below.refl _ _).alloc (Nat.le_refl _) _
  have hr3 : RowAt w3 w2.heap.size (ring zs h s) := by rw [hw3]; exact RowAt.made w2 _
  have hs3 : Hid (w3.heap.size = w2.heap.size + 1) := by rw [hw3]; simp [Hid]
  clear hw3
  go_wp2_with (go_at_call 12; refine (drop_any w3 _ l l h s n hl hn hs HB.out).mono ?_)
  rintro e w4 ⟨rfl, hb4⟩
  have r1 : RowAt w4 w.heap.size zs := (hr12.below hb3 hr12.lt).below hb4 (Nat.lt_of_lt_of_le hr12.lt hb3.size)
  have r2 : RowAt w4 w1.heap.size zs := (hr2.below hb3 hr2.lt).below hb4 (Nat.lt_of_lt_of_le hr2.lt hb3.size)
  have r3 : RowAt w4 w2.heap.size (ring zs h s) := hr3.below hb4 hr3.lt
  have hb : Below w.heap.size w w4 := ((hb1.trans (hb2.mono hb1.size)).trans (hb3.mono (Nat.le_trans hb1.size hb2.size))).trans (hb4.mono (Nat.le_trans (Nat.le_trans hb1.size hb2.size) hb3.size))
  clear hr1 hr2 hr3 hr12 hb1 hb2 hb3 hb4
  go_wp2
  go_loopw [15] (fun i wr => ∃ k nq : Nat, k ≤ l ∧ i = .int .i64 k ∧ wr = w4.drewN nq) (fun i _ => l - (intOf i).toNat)
  case atStart => exact ⟨0, 0, Nat.zero_le _, rfl, rfl⟩
  case round =>
    obtain ⟨k, nq, hk, rfl, rfl⟩ := hrel
    by_cases hlt : k < l
    · have hkz : k < zs.length := by rw [HZ.out]; exact hlt
      have c1 : w4.cell? ⟨w.heap.size, k, none⟩ = some (.int .u8 (zs.getD k 0)) := r1.cell k hkz
      have c2 : w4.cell? ⟨w1.heap.size, k, none⟩ = some (.int .u8 (zs.getD k 0)) := r2.cell k hkz
      clear r1 r2 r3 hb
      go_wp2
      go_region
      all_goals
        go_wp2
        go_roundw
        case rel => exact ⟨k + 1, nq + 1, by omega, by go_num, rfl⟩
        case measure => simp [intOf]; omega
    · have e0 : Hid (newHead l h s n = if n = 0 then h else if n = s then 0 else (h + n) % l) := rfl
      by_cases hn0 : n = 0
      · subst hn0
        have e1 : newHead l h s 0 = h := by have := e0.out; simpa using this
        rw [e1]
        go_wp2_with (go_at_call 13; refine (same_own _ w.heap.size l).mono ?_; rintro e w5 ⟨rfl, hb5⟩)
        go_ret
        exact ⟨rfl, (below_dr hb nq).trans (hb5.mono (by simpa using hb.size))⟩
      · by_cases hns : n = s
        · subst hns
          have e1 : newHead l h n n = 0 := by have := e0.out; simpa [hn0] using this
          rw [e1]
          have hn' : 0 < n := by omega
          clear hn0
          go_wp2_with (go_at_call 13; refine (same_own _ w.heap.size l).mono ?_; rintro e w5 ⟨rfl, hb5⟩)
          go_ret
          exact ⟨rfl, (below_dr hb nq).trans (hb5.mono (by simpa using hb.size))⟩
        · have e1 : newHead l h s n = (h + n) % l := by have := e0.out; simpa [hn0, hns] using this
          rw [e1]
          have hn' : 0 < n := by omega
          have hns' : n < s := by omega
          have hll : 0 < l := by omega
          obtain ⟨h2, eh2⟩ : ∃ h2, Hid (h2 = (h + n) % l) := ⟨_, rfl⟩
          rw [← eh2.out]
          clear hn0 hns e1 e0
          go_wp2_with (go_at_call 13; refine (same_own _ w.heap.size l).mono ?_; rintro e w5 ⟨rfl, hb5⟩)
          have b5 : Below w.heap.size w w5 := (below_dr hb nq).trans (hb5.mono (by simpa using hb.size))
          have s1 : RowAt w5 w.heap.size zs := (show RowAt (w4.drewN nq) _ _ from r1).below hb5 r1.lt
          have s3 : RowAt w5 w2.heap.size (ring zs h s) := (show RowAt (w4.drewN nq) _ _ from r3).below hb5 r3.lt
          clear hb5 hb r1 r2 r3
          have hhl : h < l := HB.out hll
          go_loop [16, 17] (fun p i => ∃ j q : Nat, j ≤ n ∧ i = .int .i64 j ∧ p = .int .i64 q ∧ q = (h + j) % l) (fun _ i => n - (intOf i).toNat)
          case atStart => exact ⟨0, h, Nat.zero_le _, rfl, rfl, (Nat.mod_eq_of_lt hhl).symm⟩
          case round =>
            obtain ⟨j, q, hj, rfl, rfl, hq⟩ := hrel
            have hql : q < l := by rw [hq]; exact Nat.mod_lt _ hll
            have HQ : Hid (q = (h + j) % l) := hq
            clear hq
            by_cases hjn : j < n
            · by_cases hw : q + 1 = l
              · have HW : Hid (q + 1 = l) := hw
                have hbw : ((q : Int) + 1 == (l : Int)) = true := by simp; omega
                clear hw
                go_wp2
                go_round
                case rel => exact ⟨j + 1, 0, by omega, by go_num, rfl, head_step_wrap HQ.out HW.out⟩
                case measure => simp [intOf]; omega
              · go_wp2
                go_round
                case rel => exact ⟨j + 1, q + 1, by omega, by go_num, by go_num, head_step hll HQ.out hw⟩
                case measure => simp [intOf]; omega
            · have hqe : q = h2 := by rw [HQ.out, eh2.out]; congr 2; omega
              subst hqe
              have hc6 := contents_any w5 (some ⟨w.heap.size, 0, none⟩) l zs q (s - n) w.heap.size (by rw [HZ.out]; exact hl) (by rw [HZ.out]; omega) (fun _ => ⟨rfl, s1⟩) (fun _ => by rw [HZ.out]; exact hql) (fun _ => by rw [HZ.out]; omega)
              rw [HZ.out] at hc6
              go_wp2_with fail
              refine hc6.mono ?_
              clear hc6
              rintro e w6 ⟨rfl, hw6⟩
              have b6 : Below w.heap.size w w6 := by rw [hw6]; exact b5.alloc b5.size _
              have t3 : RowAt w6 w2.heap.size (ring zs h s) := by rw [hw6]; exact s3.alloc _
              have t6 : RowAt w6 w5.heap.size (ring zs q (s - n)) := by rw [hw6]; exact RowAt.made w5 _
              clear hw6 s1 s3 b5
              have hrd : ∀ i, n + i < s → (ring zs q (s - n)).getD i 0 = (ring zs h s).getD (n + i) 0 := fun i hi => by rw [eh2.out, ← HZ.out]; exact ring_drop zs h s n i hi
              go_wp2
              go_loopw [19] (fun i wr => ∃ i' nq' : Nat, i' ≤ s - n ∧ i = .int .i64 i' ∧ wr = w6.drewN nq') (fun i _ => (s - n) - (intOf i).toNat)
              case atStart => exact ⟨0, 0, Nat.zero_le _, rfl, rfl⟩
              case round =>
                obtain ⟨i, nq', hi, rfl, rfl⟩ := hrel
                by_cases hin : i < s - n
                · have d1 : w6.cell? ⟨w5.heap.size, i, none⟩ = some (.int .u8 ((ring zs h s).getD (n + i) 0)) := by rw [← hrd i (by omega)]; exact t6.cell i (by rw [ring_length]; exact hin)
                  have d2 : w6.cell? ⟨w2.heap.size, n + i, none⟩ = some (.int .u8 ((ring zs h s).getD (n + i) 0)) := t3.cell (n + i) (by rw [ring_length]; omega)
                  clear t3 t6 b6 hrd
                  go_wp2
                  go_region
                  all_goals
                    go_wp2
                    go_roundw
                    case rel => exact ⟨i + 1, nq' + 1, by omega, by go_num, rfl⟩
                    case measure => simp [intOf]; omega
                · go_wp2
                  go_ret
                  exact ⟨rfl, below_dr b6 nq'⟩
end Go.Proofs.Qxb6604171a
