import Derived.Test.Qxb6604565aBase
namespace Go.Proofs.Qxb6604565a
open Go.RowKit
set_option linter.unusedVariables false

set_option maxHeartbeats 2000000 in
set_option maxRecDepth 100000 in
/-- lengthSize -/
theorem lensize_any (w : World) (n : Nat) (hn : 1 ≤ n) (hn2 : n ≤ 2097152) :
    Calls Try.prog 23 #[.int .i64 n] w fun e w' => ∃ k, IsCnt 256 n k ∧ e = .returned (.int .i64 k) ∧ w = w' := by
  go_enter Try.func23, Try.ntmps23
  go_wp2
  go_loop [0, 3] (fun x c => ∃ i v : Nat, i ≤ 3 ∧ v = n / 256 ^ i ∧ c = .int .i64 i ∧ x = .int .i64 v ∧ (∀ j, j < i → n / 256 ^ j ≠ 0)) (fun _ c => 4 - (intOf c).toNat)
  case atStart => exact ⟨0, n, by omega, by simp, rfl, rfl, fun j h1 => by omega⟩
  case round =>
    obtain ⟨i, v, hi4, hv, rfl, rfl, hmore⟩ := hrel
    have HV : Hid (v = n / 256 ^ i) := hv
    have HMore : Hid (∀ j, j < i → n / 256 ^ j ≠ 0) := hmore
    have hvn : v ≤ 2097152 := by rw [hv]; exact Nat.le_trans (Nat.div_le_self _ _) hn2
    clear hv hmore
    by_cases hv0 : 0 < v
    · have HN : Hid (n / 256 ^ (i + 1) = v / 256) := by show _ = _; rw [div_step, ← HV.out]
      have hi3 : i < 3 := cnt256_lt n i hn2 (by rw [← HV.out]; omega)
      go_wp2
      go_round
      case rel =>
        refine ⟨i + 1, v / 256, by omega, HN.out.symm, by go_num, by go_num, fun j h1 => ?_⟩
        by_cases hj : j < i
        · exact HMore.out j hj
        · rw [show j = i by omega, ← HV.out]; omega
      case measure => simp [intOf]; omega
    · have hv0' : v = 0 := by omega
      subst hv0'
      have HC : Hid (IsCnt 256 n i) := ⟨by
          by_cases h : i = 0
          · subst h; have := HV.out; simp at this; omega
          · omega, HV.out.symm, fun j h1 h2 => HMore.out j h2⟩
      clear HV HMore
      go_wp2
      go_ret
      exact ⟨i, HC.out, rfl, rfl⟩

theorem digit256 (n q : Nat) : (n : Int) / 2 ^ (8 * q) % 256 = ((dig 256 n q : Nat) : Int) := by
  rw [shr8, dig]; simp

set_option maxHeartbeats 2000000 in
set_option maxRecDepth 100000 in
theorem alen_short (w : World) (t : TypeId) (g n : Nat) (L0 : List Int) (hn : n < 128) (hL0 : L0.length ≤ 10) (hr : Row t w g 16 L0) :
    Calls Try.prog 21 #[.slice (some ⟨g, 0, none⟩) L0.length 16, .int .i64 n] w fun e w' => e = .returned (.slice (some ⟨g, 0, none⟩) (L0.length + 1) 16) ∧ Row t w' g 16 (L0 ++ [(n : Int)]) ∧ w.grownBy w' (some g) := by
  obtain ⟨i0, hi, hz0, hz1, hz2⟩ := info_parts Try.info5
  have HR : Hid (Row t w g 16 L0) := hr
  have hg : g < w.heap.size := hr.lt
  have HN : Hid (∀ x o, Row t ((w.setCell ⟨g, L0.length, none⟩ (.int .u8 x)).alloc o) g 16 (L0 ++ [x]) ∧ w.grownBy ((w.setCell ⟨g, L0.length, none⟩ (.int .u8 x)).alloc o) (some g)) := fun x o => hr.more (World.grownBy.refl _ _) x o (by omega)
  clear hr
  go_enter Try.func21, Try.ntmps21
  go_wp2_with (at_builtin; refine wpList_append_arr _ rfl _ _ 23 rfl 5 i0 Try.underlying23 hi hz1 t g 16 L0 L0.length rfl rfl (HR.out.grown (grownBy_alloc' _ _ none) (by simp)) w.heap.size 1 (n : Int) rfl (by simp) (by omega) ?_)
  go_ret
  obtain ⟨q1, q2⟩ := HN.out (n : Int) (.cells #[.int .u8 (n : Int)] 5)
  exact ⟨rfl, q1, q2⟩

set_option maxHeartbeats 2000000 in
set_option maxRecDepth 100000 in
theorem alen_long (w : World) (t : TypeId) (g n : Nat) (L0 : List Int) (hn : 128 ≤ n) (hn2 : n ≤ 2097152) (hL0 : L0.length ≤ 10) (hr : Row t w g 16 L0) :
    Calls Try.prog 21 #[.slice (some ⟨g, 0, none⟩) L0.length 16, .int .i64 n] w fun e w' => ∃ k, IsCnt 256 n k ∧ e = .returned (.slice (some ⟨g, 0, none⟩) (L0.length + (k + 1)) 16) ∧ Row t w' g 16 (L0 ++ (128 + (k : Int)) :: tl256 n k) ∧ w.grownBy w' (some g) := by
  obtain ⟨i0, hi, hz0, hz1, hz2⟩ := info_parts Try.info5
  have HR : Hid (Row t w g 16 L0) := hr
  have hg : g < w.heap.size := hr.lt
  have HN : Hid (∀ x o, Row t ((w.setCell ⟨g, L0.length, none⟩ (.int .u8 x)).alloc o) g 16 (L0 ++ [x]) ∧ w.grownBy ((w.setCell ⟨g, L0.length, none⟩ (.int .u8 x)).alloc o) (some g)) := fun x o => hr.more (World.grownBy.refl _ _) x o (by omega)
  clear hr
  have HLS := lensize_any w n (by omega) hn2
  go_enter Try.func21, Try.ntmps21
  go_wp2_with fail
  refine HLS.mono ?_
  clear HLS
  rintro e w' ⟨k, hcnt, rfl, rfl⟩
  have hk3 := cnt256_le n k hn2 hcnt
  have HC : Hid (IsCnt 256 n k) := hcnt
  have hk1 := hcnt.pos
  clear hcnt
  go_wp2_with (at_builtin; refine wpList_append_arr _ rfl _ _ 23 rfl 5 i0 Try.underlying23 hi hz1 t g 16 L0 L0.length rfl rfl (HR.out.grown (grownBy_alloc' _ _ none) (by simp)) w.heap.size 1 (128 + (k : Int)) rfl (by simp) (by omega) ?_)
  go_loopw [0, 6] (fun out c wr => ∃ (q : Nat) (L : List Int), q ≤ k ∧ c = .int .i64 ((q : Int) - 1) ∧ L.length + q = L0.length + (k + 1) ∧ out = .slice (some ⟨g, 0, none⟩) L.length 16 ∧ L ++ tl256 n q = L0 ++ (128 + (k : Int)) :: tl256 n k ∧ Row t wr g 16 L ∧ w.grownBy wr (some g)) (fun _ c _ => (intOf c + 1).toNat)
  case atStart =>
    obtain ⟨q1, q2⟩ := HN.out (128 + (k : Int)) (.cells #[.int .u8 (128 + (k : Int))] 5)
    refine ⟨k, L0 ++ [128 + (k : Int)], Nat.le_refl _, by go_num, by simp; omega, by simp, ?_, q1, q2⟩
    simp
  case round =>
    clear HR HN
    obtain ⟨q, L, hq, rfl, hL, rfl, htl, r5, hgr⟩ := hrel
    have HTl : Hid (L ++ tl256 n q = L0 ++ (128 + (k : Int)) :: tl256 n k) := htl
    have HR5 : Hid (Row t wr g 16 L) := r5
    have HG : Hid (w.grownBy wr (some g)) := hgr
    have hg3 : g < wr.heap.size := r5.lt
    clear htl r5 hgr
    cases q with
    | zero =>
      have e0 : ((0 : Nat) : Int) - 1 = -1 := by omega
      rw [e0]
      clear e0
      have hLe : L = L0 ++ (128 + (k : Int)) :: tl256 n k := by have := HTl.out; simpa [tl256] using this
      have HLe : Hid (L = L0 ++ (128 + (k : Int)) :: tl256 n k) := hLe
      have hLl : L.length = L0.length + (k + 1) := by omega
      rw [hLl]
      clear hLe hLl
      go_wp2
      go_ret
      exact ⟨k, HC.out, rfl, by rw [← HLe.out]; exact HR5.out, HG.out⟩
    | succ q =>
      have e0 : ((q + 1 : Nat) : Int) - 1 = (q : Int) := by omega
      rw [e0]
      clear e0
      have HN2 : Hid (∀ x o, Row t ((wr.setCell ⟨g, L.length, none⟩ (.int .u8 x)).alloc o) g 16 (L ++ [x]) ∧ w.grownBy ((wr.setCell ⟨g, L.length, none⟩ (.int .u8 x)).alloc o) (some g)) := fun x o => HR5.out.more HG.out x o (by omega)
      go_wp2_with (at_builtin; refine wpList_append_arr _ rfl _ _ 23 rfl 5 i0 Try.underlying23 hi hz1 t g 16 L L.length rfl rfl (HR5.out.grown (grownBy_alloc' _ _ none) (by simp)) wr.heap.size 1 ((n : Int) / 2 ^ (8 * q) % 256) rfl (by simp) (by omega) ?_)
      go_roundw
      case rel =>
        obtain ⟨q1, q2⟩ := HN2.out ((n : Int) / 2 ^ (8 * q) % 256) (.cells #[.int .u8 ((n : Int) / 2 ^ (8 * q) % 256)] 5)
        refine ⟨q, L ++ [(n : Int) / 2 ^ (8 * q) % 256], by omega, by go_num, by simp; omega, by simp, ?_, q1, q2⟩
        rw [← HTl.out, digit256]; simp [tl256]
      case measure => simp [intOf]
end Go.Proofs.Qxb6604565a
