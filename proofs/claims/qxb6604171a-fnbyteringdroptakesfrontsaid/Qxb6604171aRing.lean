import Derived.Test.Qxb6604171aParts
namespace Go.Proofs.Qxb6604171a
open Go.RowKit Go.ChangeShapes Go.WideShapes Go.ChangeAt
set_option linter.unusedVariables false

/-- zzRingContents: a new block that holds the ring's bytes. -/
theorem contents_any (w : World) (a : Option Addr) (cap : Nat) (zs : List Int) (h s B : Nat) (hlen : zs.length ≤ 1048576) (hs : s ≤ zs.length)
    (ha : 0 < s → a = some ⟨B, 0, none⟩ ∧ RowAt w B zs) (hh : 0 < s → h < zs.length) (hh0 : s = 0 → h ≤ zs.length) :
    Calls Try.prog 11 #[.slice a zs.length cap, .int .i64 h, .int .i64 s] w fun e w' => e = .returned (.slice (some ⟨w.heap.size, 0, none⟩) s s) ∧ w' = w.alloc (.cells (cellsOf (ring zs h s)) 5) := by
  have hmk := fun w => run_make_row' 26 5 (.int .u8 0) 1 Try.underlying26 Try.info5 rfl .i64 .i64 s (by omega) (by omega) w
  simp only [made_cells] at hmk
  go_enter Try.func11, Try.ntmps11
  go_wp2
  go_loopw [8, 9] (fun p i wr => ∃ k q : Nat, k ≤ s ∧ i = .int .i64 k ∧ p = .int .i64 q ∧ (0 < s → q = (h + k) % zs.length) ∧ wr = w.alloc (.cells (cellsOf (filled (ring zs h s) k)) 5)) (fun _ i _ => s - (intOf i).toNat)
  case atStart => exact ⟨0, h, Nat.zero_le _, rfl, rfl, fun h0 => (Nat.mod_eq_of_lt (hh h0)).symm, by rw [filled_zero, ring_length]⟩
  case round =>
    obtain ⟨k, q, hk, rfl, rfl, hq, rfl⟩ := hrel
    clear hmk
    by_cases hlt : k < s
    · obtain ⟨rfl, hrow⟩ := ha (by omega)
      have hq' := hq (by omega)
      have hl := hh (by omega)
      have hql : q < zs.length := by rw [hq']; exact Nat.mod_lt _ (by omega)
      have hB := hrow.lt
      have h1 : (w.alloc (.cells (cellsOf (filled (ring zs h s) k)) 5)).cell? ⟨B, q, none⟩ = some (.int .u8 (zs.getD q 0)) := (hrow.alloc _).cell q hql
      have h2 : (w.alloc (.cells (cellsOf (filled (ring zs h s) k)) 5)).cell? ⟨w.heap.size, k, none⟩ = some (.int .u8 ((filled (ring zs h s) k).getD k 0)) :=
        (RowAt.made w _).cell k (by rw [filled_length _ _ (by rw [ring_length]; omega), ring_length]; exact hlt)
      have HQ : Hid (q = (h + k) % zs.length) := hq'
      have HR : Hid (zs[q]'hql = (ring zs h s).getD k 0) := by
        show _ = _
        rw [ring_getD _ _ _ _ hlt, ← hq']; simp [hql]
      clear hq hq' ha hh hh0 hrow
      by_cases hw : q + 1 = zs.length
      · have hb : ((q : Int) + 1 == (zs.length : Int)) = true := by simp; omega
        have HW : Hid (q + 1 = zs.length) := hw
        clear hw
        go_wp2
        go_roundw
        case rel =>
          refine ⟨k + 1, 0, by omega, by go_num, rfl, fun _ => ?_, ?_⟩
          · rw [← Nat.add_assoc, mod_step_wrap]; rw [← HQ.out]; exact HW.out
          · rw [cellsOf_set, HR.out, filled_set _ k (by rw [ring_length]; exact hlt)]
        case measure => simp [intOf]; omega
      · have hb : ((q : Int) + 1 == (zs.length : Int)) = false := by simp; omega
        go_wp2
        go_roundw
        case rel =>
          refine ⟨k + 1, q + 1, by omega, by go_num, by go_num, fun _ => ?_, ?_⟩
          · rw [← Nat.add_assoc, mod_step _ _ (by omega)]; rw [← HQ.out]; rw [← HQ.out]; exact hw
          · rw [cellsOf_set, HR.out, filled_set _ k (by rw [ring_length]; exact hlt)]
        case measure => simp [intOf]; omega
    · go_wp2
      go_ret
      have : k = s := by omega
      subst this
      have e := filled_all (ring zs h k)
      rw [ring_length] at e
      exact ⟨rfl, by rw [e]⟩
end Go.Proofs.Qxb6604171a
