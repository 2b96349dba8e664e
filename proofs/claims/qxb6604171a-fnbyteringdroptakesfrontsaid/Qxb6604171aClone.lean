import Derived.Test.Qxb6604171aParts
namespace Go.Proofs.Qxb6604171a
open Go.RowKit Go.ChangeShapes Go.WideShapes Go.ChangeAt
set_option linter.unusedVariables false

/-- zzCloneBytes at nil: nil. -/
theorem clone_nil (w : World) : Calls Try.prog 10 #[.slice none 0 0] w fun e w' => e = .returned (.slice none 0 0) ∧ w = w' := by
  have q26 : ∀ (w : World) (a : Option Addr) (n c n' c' : Nat), (binOp .eql 26 (.slice a n c) (.slice none n' c')).run Try.prog w = .ok (.bool a.isNone) w := fun w a n c n' c' => Lib.run_eql_slice_nil w _ _ a n c n' c' Try.underlying26
  go_enter Try.func10, Try.ntmps10
  go_wp2
  go_ret
  exact ⟨rfl, rfl⟩

/-- zzCloneBytes at a slice that is not nil: a new block that holds the same bytes, no more. -/
theorem clone_some (w : World) (x : Addr) (len cap : Nat) (zs : List Int) (hz : zs.length = len) (hlen : len ≤ 1048576)
    (hc : ∀ j, j < len → w.cell? (x.add j) = some (.int .u8 (zs.getD j 0))) (hx : 0 < len → x.block < w.heap.size) :
    Calls Try.prog 10 #[.slice (some x) len cap] w fun e w' => e = .returned (.slice (some ⟨w.heap.size, 0, none⟩) len len) ∧ w' = w.alloc (.cells (cellsOf zs) 5) := by
  have q26 : ∀ (w : World) (a : Option Addr) (n c n' c' : Nat), (binOp .eql 26 (.slice a n c) (.slice none n' c')).run Try.prog w = .ok (.bool a.isNone) w := fun w a n c n' c' => Lib.run_eql_slice_nil w _ _ a n c n' c' Try.underlying26
  have hmk := fun w => run_make_row' 26 5 (.int .u8 0) 1 Try.underlying26 Try.info5 rfl .i64 .i64 len (by omega) (by omega) w
  simp only [made_cells] at hmk
  go_enter Try.func10, Try.ntmps10
  go_wp2
  go_loopw [4] (fun i wr => ∃ k : Nat, k ≤ len ∧ i = .int .i64 k ∧ wr = w.alloc (.cells (cellsOf (filled zs k)) 5)) (fun i _ => len - (intOf i).toNat)
  case atStart => exact ⟨0, Nat.zero_le _, rfl, by rw [filled_zero, hz]⟩
  case round =>
    obtain ⟨k, hk, rfl, rfl⟩ := hrel
    clear hmk q26
    by_cases hlt : k < len
    · obtain ⟨b, off, spot⟩ := x
      have hk1 := hc k hlt
      have hsp : spot = none := by simpa [Addr.add] using World.cell?_spot (hc 0 (by omega))
      subst hsp
      have hb : b < w.heap.size := hx (by omega)
      rw [add_plain] at hk1
      have h1 : (w.alloc (.cells (cellsOf (filled zs k)) 5)).cell? ⟨b, off + k, none⟩ = some (.int .u8 (zs.getD k 0)) := by
        rw [← hk1]; exact World.cell?_of_block (w := w) (Below.heap_alloc w _ b hb)
      have h2 : (w.alloc (.cells (cellsOf (filled zs k)) 5)).cell? ⟨w.heap.size, k, none⟩ = some (.int .u8 ((filled zs k).getD k 0)) :=
        (RowAt.made w (filled zs k)).cell k (by rw [filled_length]; omega; omega)
      clear hc hx hk1
      go_wp2
      go_roundw
      case rel =>
        have e : zs[k]'(by omega) = zs.getD k 0 := by simp [hz, hlt]
        refine ⟨k + 1, by omega, by go_num, ?_⟩
        rw [cellsOf_set, e, filled_set zs k (by omega)]
      case measure => simp [intOf]; omega
    · go_wp2
      go_ret
      have : k = len := by omega
      subst this
      exact ⟨rfl, by rw [← hz, filled_all]⟩
end Go.Proofs.Qxb6604171a
