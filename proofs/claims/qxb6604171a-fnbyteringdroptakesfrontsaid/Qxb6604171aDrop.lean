import Derived.Test.Qxb6604171aParts
import Derived.LaidEqlPtr
namespace Go.Proofs.Qxb6604171a
open Go.RowKit Go.ChangeShapes Go.WideShapes Go.ChangeAt
set_option linter.unusedVariables false

theorem drop_zero (w : World) (a : Option Addr) (l c h s : Nat) :
    Calls Try.prog 12 #[.slice a l c, .int .i64 h, .int .i64 s, .int .i64 0] w fun e w' => e = .returned (.tuple #[.slice a l c, .int .i64 h, .int .i64 s]) ∧ Below w.heap.size w w' := by
  go_enter Try.func12, Try.ntmps12
  go_wp2
  refine bodyPost_ret (results_none rfl _ _ _) rfl ?_
  go_wp2
  go_region
  all_goals
    go_wp2
    go_ret3
    exact ⟨rfl, ((Below.refl _ _).alloc (Nat.le_refl _) _).drew⟩

theorem drop_some (w : World) (a : Option Addr) (l c h s n : Nat) (hl : l ≤ 1048576) (hn : 0 < n) (hns : n < s) (hs : s ≤ l) (hh : h < l) :
    Calls Try.prog 12 #[.slice a l c, .int .i64 h, .int .i64 s, .int .i64 n] w fun e w' => e = .returned (.tuple #[.slice a l c, .int .i64 ((h + n) % l : Nat), .int .i64 ((s - n : Nat) : Int)]) ∧ Below w.heap.size w w' := by
  have h1 : ((n : Int) == 0) = false := by simp; omega
  have h2 : ((s : Int) - n == 0) = false := by simp; omega
  go_enter Try.func12, Try.ntmps12
  go_wp2
  go_region
  all_goals
    go_wp2
    go_end0
    go_wp2
    go_region
    all_goals
      go_wp2
      go_ret3
      refine ⟨?_, (((Below.refl _ _).alloc (Nat.le_refl _) _).drew).drew⟩
      show Ending.returned (.tuple #[.slice a l c, .int .i64 (((h : Int) + n) % l), .int .i64 ((s : Int) - n)]) = _
      rw [show ((h : Int) + n) % l = (((h + n) % l : Nat) : Int) by simp, show (s : Int) - n = ((s - n : Nat) : Int) by omega]

theorem drop_all (w : World) (a : Option Addr) (l c h s : Nat) (hl : l ≤ 1048576) (hn : 0 < s) (hs : s ≤ l) (hh : h < l) :
    Calls Try.prog 12 #[.slice a l c, .int .i64 h, .int .i64 s, .int .i64 s] w fun e w' => e = .returned (.tuple #[.slice a l c, .int .i64 0, .int .i64 0]) ∧ Below w.heap.size w w' := by
  have h1 : ((s : Int) == 0) = false := by simp; omega
  go_enter Try.func12, Try.ntmps12
  go_wp2
  go_region
  all_goals
    go_wp2
    go_end0
    go_wp2
    go_region
    all_goals
      go_wp2
      go_ret3
      exact ⟨rfl, (((Below.refl _ _).alloc (Nat.le_refl _) _).drew).drew⟩

/-- ZZRingDrop: the buffer as it was, the new head, the new size. -/
def newHead (l h s n : Nat) : Nat := if n = 0 then h else if n = s then 0 else (h + n) % l
theorem drop_any (w : World) (a : Option Addr) (l c h s n : Nat) (hl : l ≤ 1048576) (hn : n ≤ s) (hs : s ≤ l) (hh : 0 < l → h < l) :
    Calls Try.prog 12 #[.slice a l c, .int .i64 h, .int .i64 s, .int .i64 n] w fun e w' => e = .returned (.tuple #[.slice a l c, .int .i64 (newHead l h s n : Nat), .int .i64 ((s - n : Nat) : Int)]) ∧ Below w.heap.size w w' := by
  by_cases h0 : n = 0
  · subst h0; simpa [newHead] using drop_zero w a l c h s
  · by_cases h1 : n = s
    · subst h1; simpa [newHead, h0] using drop_all w a l c h n hl (by omega) hs (hh (by omega))
    · simpa [newHead, h0, h1] using drop_some w a l c h s n hl (by omega) (by omega) hs (hh (by omega))

/-- zzSameBuffer of a slice and itself. -/
theorem same_nil (w : World) : Calls Try.prog 13 #[.slice none 0 0, .slice none 0 0] w fun e w' => e = .returned (.bool true) ∧ Below w.heap.size w w' := by
  have q26 : ∀ (w : World) (a : Option Addr) (n c n' c' : Nat), (binOp .eql 26 (.slice a n c) (.slice none n' c')).run Try.prog w = .ok (.bool a.isNone) w := fun w a n c n' c' => Lib.run_eql_slice_nil w _ _ a n c n' c' Try.underlying26
  go_enter Try.func13, Try.ntmps13
  go_wp2
  go_ret
  exact ⟨rfl, Below.refl _ _⟩
theorem same_zero (w : World) (B : Nat) : Calls Try.prog 13 #[.slice (some ⟨B, 0, none⟩) 0 0, .slice (some ⟨B, 0, none⟩) 0 0] w fun e w' => e = .returned (.bool true) ∧ Below w.heap.size w w' := by
  have q26 : ∀ (w : World) (a : Option Addr) (n c n' c' : Nat), (binOp .eql 26 (.slice a n c) (.slice none n' c')).run Try.prog w = .ok (.bool a.isNone) w := fun w a n c n' c' => Lib.run_eql_slice_nil w _ _ a n c n' c' Try.underlying26
  go_enter Try.func13, Try.ntmps13
  go_wp2
  go_ret
  exact ⟨rfl, Below.refl _ _⟩
theorem same_some (w : World) (B l : Nat) (hl : 0 < l) : Calls Try.prog 13 #[.slice (some ⟨B, 0, none⟩) l l, .slice (some ⟨B, 0, none⟩) l l] w fun e w' => e = .returned (.bool true) ∧ Below w.heap.size w w' := by
  have q26 : ∀ (w : World) (a : Option Addr) (n c n' c' : Nat), (binOp .eql 26 (.slice a n c) (.slice none n' c')).run Try.prog w = .ok (.bool a.isNone) w := fun w a n c n' c' => Lib.run_eql_slice_nil w _ _ a n c n' c' Try.underlying26
  have h0 : (0 : Int) < (l : Int) := by omega
  obtain ⟨i0, hi, hz0, hz1, hz2⟩ := info_parts Try.info5
  have qp := fun w => run_eql_ptr_same (P := Try.prog) w ⟨B, 0, none⟩ Try.underlying37 hi
  have h1 : ((l : Int) == 0) = false := by simp; omega
  go_enter Try.func13, Try.ntmps13
  go_wp2
  go_region
  all_goals
    go_wp2
    go_ret
    exact ⟨rfl, (Below.refl _ _).drew⟩
theorem same_own (w : World) (B l : Nat) : Calls Try.prog 13 #[.slice (some ⟨B, 0, none⟩) l l, .slice (some ⟨B, 0, none⟩) l l] w fun e w' => e = .returned (.bool true) ∧ Below w.heap.size w w' := by
  by_cases h : l = 0
  · subst h; exact same_zero w B
  · exact same_some w B l (by omega)

/-- zzRingOK where the invariant does not hold. -/
theorem ringOK_no (w : World) (l : Nat) (h s : Int) (hb : ¬ (0 ≤ s ∧ s ≤ l ∧ (l = 0 → h = 0) ∧ (0 < l → 0 ≤ h ∧ h < l))) :
    Calls Try.prog 9 #[.int .i64 l, .int .i64 h, .int .i64 s] w fun e w' => e = .returned (.bool false) ∧ w = w' := by
  by_cases h1 : s < 0
  · go_enter Try.func9, Try.ntmps9
    go_wp2
    go_ret
    exact ⟨rfl, rfl⟩
  by_cases h2 : (l : Int) < s
  · go_enter Try.func9, Try.ntmps9
    go_wp2
    go_ret
    exact ⟨rfl, rfl⟩
  by_cases h3 : l = 0
  · have h4 : (h == 0) = false := by simp; intro h5; exact hb ⟨by omega, by omega, fun _ => h5, fun h6 => by omega⟩
    subst h3
    clear hb
    go_enter Try.func9, Try.ntmps9
    go_wp2
    go_ret
    exact ⟨rfl, rfl⟩
  have h3' : ((l : Int) == 0) = false := by simp; omega
  by_cases h4 : h < 0
  · clear hb
    go_enter Try.func9, Try.ntmps9
    go_wp2
    go_ret
    exact ⟨rfl, rfl⟩
  have h5 : ¬ h < l := fun h6 => hb ⟨by omega, by omega, fun h7 => absurd h7 h3, fun _ => ⟨by omega, h6⟩⟩
  clear hb
  go_enter Try.func9, Try.ntmps9
  go_wp2
  go_ret
  exact ⟨rfl, rfl⟩
/-- zzRingOK where it does. -/
theorem ringOK_yes (w : World) (l h s : Nat) (hs : s ≤ l) (h0 : l = 0 → h = 0) (h1 : 0 < l → h < l) :
    Calls Try.prog 9 #[.int .i64 l, .int .i64 h, .int .i64 s] w fun e w' => e = .returned (.bool true) ∧ w = w' := by
  by_cases h3 : l = 0
  · obtain rfl := h0 h3
    subst h3
    clear h0 h1
    go_enter Try.func9, Try.ntmps9
    go_wp2
    go_ret
    exact ⟨rfl, rfl⟩
  have h3' : ((l : Int) == 0) = false := by simp; omega
  have h4 := h1 (by omega)
  clear h0 h1
  go_enter Try.func9, Try.ntmps9
  go_wp2
  go_ret
  exact ⟨rfl, rfl⟩
end Go.Proofs.Qxb6604171a
