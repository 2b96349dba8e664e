import Derived.Test.Qxb6604565aAlen
import Derived.Outline
import Derived.Deep.DrawnRows
namespace Go.Proofs.Qxb6604565a
open Go.RowKit
set_option linter.unusedVariables false

set_option maxHeartbeats 2000000 in
set_option maxRecDepth 100000 in
theorem aid_short (w : World) (t : TypeId) (g n : Nat) (hn : n < 31) (hr : Row t w g 16 []) :
    Calls Try.prog 19 #[.slice (some ⟨g, 0, none⟩) 0 16, .agg #[.int .u8 2, .int .u32 n], .bool true] w fun e w' => e = .returned (.slice (some ⟨g, 0, none⟩) 1 16) ∧ Row t w' g 16 [160 + (n : Int)] ∧ w.grownBy w' (some g) := by
  obtain ⟨i0, hi, hz0, hz1, hz2⟩ := info_parts Try.info5
  have HR : Hid (Row t w g 16 []) := hr
  have hg : g < w.heap.size := hr.lt
  obtain ⟨v0, hc0⟩ := hr.held 0 (by omega)
  have hf0 := hr.free 0
  clear hr
  have e160 : bits .or .u8 160 (n : Int) = 160 + (n : Int) := by
    rw [show (160 : Int) = ((160 : Nat) : Int) from rfl, u8_or_nat 160 n (by omega) (by omega)]
    have e : 160 ||| n = 160 + n := by
      have := Nat.two_pow_add_eq_or_of_lt (i := 5) (b := n) (by omega) 5
      simp at this
      rw [← this]
    rw [e]; simp
  have E160 : Hid (bits .or .u8 160 (n : Int) = 160 + (n : Int)) := e160
  clear e160
  go_enter Try.func19, Try.ntmps19
  go_wp2
  go_ret
  refine ⟨rfl, ?_, ?_⟩
  · have e := ((HR.out.push (160 + (n : Int)) (by simp)).grown (grownBy_alloc' _ (.cells #[.int .u8 2, .int .u32 (n : Int)] 28) none) (by simp)).grown (grownBy_alloc' _ (.cells #[.int .u8 (160 + (n : Int))] 5) none) (by simp)
    rw [E160.out]
    simpa using e
  · exact grownBy_trans (grownBy_trans (grownBy_setCell _ _ _ _) (grownBy_alloc' _ _ _)) (grownBy_alloc' _ _ _)

set_option maxHeartbeats 2000000 in
set_option maxRecDepth 100000 in
theorem aid_long (w : World) (t : TypeId) (g n : Nat) (hn : 31 ≤ n) (hn2 : n < 4294967296) (hr : Row t w g 16 []) :
    Calls Try.prog 19 #[.slice (some ⟨g, 0, none⟩) 0 16, .agg #[.int .u8 2, .int .u32 n], .bool true] w fun e w' => ∃ k, IsCnt 128 n k ∧ e = .returned (.slice (some ⟨g, 0, none⟩) (k + 1) 16) ∧ Row t w' g 16 (191 :: tl128 n k) ∧ w.grownBy w' (some g) := by
  obtain ⟨i0, hi, hz0, hz1, hz2⟩ := info_parts Try.info5
  have HR : Hid (Row t w g 16 []) := hr
  have hg : g < w.heap.size := hr.lt
  obtain ⟨v0, hc0⟩ := hr.held 0 (by omega)
  have hf0 := hr.free 0
  clear hr
  have hwrap : IntKind.u64.wrap (n : Int) = (n : Int) := by rw [IntKind.wrap_u64]; omega
  have e191 : bits .or .u8 160 31 = 191 := by
    rw [show (160 : Int) = ((160 : Nat) : Int) from rfl, show (31 : Int) = ((31 : Nat) : Int) from rfl, u8_or_nat 160 31 (by omega) (by omega)]
    rfl
  have hW : w.grownBy ((((w.setCell ⟨g, 0, none⟩ (.int .u8 191)).alloc (.cells #[.int .u8 2, .int .u32 (n : Int)] 28)).alloc (.cells #[.int .u8 191] 5)).drew) (some g) := by
    have e := grownBy_trans (grownBy_trans (grownBy_setCell w g 0 (.int .u8 191)) (grownBy_alloc' _ (.cells #[.int .u8 2, .int .u32 (n : Int)] 28) _)) (grownBy_alloc' _ (.cells #[.int .u8 191] 5) _)
    exact ⟨e.os, e.tape, e.output, e.size, e.block⟩
  have hRW : Row t ((((w.setCell ⟨g, 0, none⟩ (.int .u8 191)).alloc (.cells #[.int .u8 2, .int .u32 (n : Int)] 28)).alloc (.cells #[.int .u8 191] 5)).drew) g 16 [191] := by
    have e := ((HR.out.push 191 (by simp)).grown (grownBy_alloc' _ (.cells #[.int .u8 2, .int .u32 (n : Int)] 28) none) (by simp)).grown (grownBy_alloc' _ (.cells #[.int .u8 191] 5) none) (by simp)
    exact e
  have HBase := base_any _ t g n [191] hn2 (by simp) hRW
  have HW : Hid (w.grownBy ((((w.setCell ⟨g, 0, none⟩ (.int .u8 191)).alloc (.cells #[.int .u8 2, .int .u32 (n : Int)] 28)).alloc (.cells #[.int .u8 191] 5)).drew) (some g)) := hW
  clear hW hRW
  go_enter Try.func19, Try.ntmps19
  go_wp2
  go_region_with (go_at_call 22; refine HBase.mono ?_; rintro e w' ⟨k, hcnt, rfl, hrow, hgr⟩)
  all_goals (go_wp2; go_ret; refine ⟨k, hcnt, ?_, by simpa using hrow, grownBy_trans HW.out hgr⟩; rw [Nat.add_comm k 1]; rfl)
end Go.Proofs.Qxb6604565a
